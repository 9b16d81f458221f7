/- a slice of diagnostics that came in -/
import Derived.Test.Qxb6002619aDiag
import Derived.Deep.Slices
import Derived.Lib.SmallJoins
namespace Go.Proofs.Qxb6002619a
open Go.ChangeShapes Go.WideShapes Go.ChangeAt Go.RowKit
set_option linter.unusedVariables false

theorem cells28 : Try.prog.cellsOf 28 = 4 := by kernel_rfl
theorem cells3 : Try.prog.cellsOf 3 = 1 := by kernel_rfl
theorem cells9 : Try.prog.cellsOf 9 = 1 := by kernel_rfl
theorem cells4 : Try.prog.cellsOf 4 = 1 := by kernel_rfl
/-- one diagnostic's four cells -/
theorem open_diag {H : Type} {enc : TypeId × Value → H} {w : World} {base : Nat} {spare : Nat → Bool} {held : Bool} {fuel : Nat} {cs : List Value} {x : DataW H × List MemPlace} (h : DataW.trod enc Try.prog w base spare held fuel 28 cs = some x) :
    ∃ d : Dg, cs = c4 d ∧ d.fl ≤ 9223372036854775807 := by
  obtain ⟨xs, n, _, _, hl, hlen, hf⟩ := DataW.trod_struct Try.underlying28 h
  rw [cells28] at hl
  match cs, hl with
  | [v0, v1, v2, v3], _ =>
    have h0 := hf 0 _ rfl
    have h1 := hf 1 _ rfl
    have h2 := hf 2 _ rfl
    have h3 := hf 3 _ rfl
    have hlen' : xs.length = 4 := hlen
    rw [List.getElem?_eq_getElem (by omega)] at h0 h1 h2 h3
    obtain ⟨l, e0, _, _⟩ := DataW.trod_int Try.underlying3 h0
    obtain ⟨fl, e1, _, hw⟩ := DataW.trod_int Try.underlying3 h1
    obtain ⟨t, e2, _, _⟩ := DataW.trod_string Try.underlying9 h2
    obtain ⟨b, e3, _⟩ := DataW.trod_bool Try.underlying4 h3
    have e0' : [v0, v1, v2, v3].take (Try.prog.cellsOf 3) = [.int .i64 l] := e0
    have e1' : [v1, v2, v3].take (Try.prog.cellsOf 3) = [.int .i64 fl] := e1
    have e2' : [v2, v3].take (Try.prog.cellsOf 9) = [.string t] := e2
    have e3' : [v3].take (Try.prog.cellsOf 4) = [.bool b] := e3
    clear e0 e1 e2 e3
    simp [cells3, cells9, cells4] at e0' e1' e2' e3'
    subst e0' e1' e2' e3'
    refine ⟨⟨l, fl, t, b⟩, rfl, ?_⟩
    simp [Lit.wf] at hw
    exact hw.2
/-- what the walk is told of it -/
def IsDs (w : World) (a : Option Addr) (n c : Nat) (b o : Nat) (f : Nat → Dg) : Prop :=
  (0 < n → a = some ⟨b, o, none⟩) ∧ (a = none → n = 0 ∧ c = 0) ∧ (∀ i, i < n → DAt w b o i (f i)) ∧ (0 < n → b < w.heap.size) ∧ (∀ i, i < n → (f i).fl ≤ 9223372036854775807) ∧ n ≤ 9223372036854775807
theorem open_ds {H : Type} {enc : TypeId × Value → H} {w : World} {base : Nat} {spare : Nat → Bool} {held : Bool} {fuel : Nat} {a : Option Addr} {n c : Nat} {x : DataW H × List MemPlace} (h : DataW.trod enc Try.prog w base spare held fuel 22 [.slice a n c] = some x) :
    ∃ b o f, IsDs w a n c b o f := by
  rcases Go.Deep.open_slice Try.underlying22 h with ⟨hcs, _⟩ | ⟨ad, len, cap, m, k, D, Pl, hcs, hb, hl, hm, hmm, _, hx⟩
  · simp at hcs
    obtain ⟨rfl, rfl, rfl⟩ := hcs
    exact ⟨0, 0, fun _ => zD, fun h => absurd h (Nat.lt_irrefl 0), fun _ => ⟨rfl, rfl⟩, fun i hi => absurd hi (Nat.not_lt_zero i), fun h => absurd h (Nat.lt_irrefl 0), fun i hi => absurd hi (Nat.not_lt_zero i), by omega⟩
  · simp at hcs
    obtain ⟨rfl, rfl, rfl⟩ := hcs
    have hnm : n ≤ m := by rw [hmm]; split <;> omega
    have key : ∀ i, i < n → ∃ d : Dg, (∀ j, j < 4 → w.cell? ((ad.add (i * 4)).add j) = (c4 d)[j]?) ∧ d.fl ≤ 9223372036854775807 := fun i hi => by
      obtain ⟨cs', q1, q2⟩ := hx i (by omega)
      obtain ⟨d, rfl, hd⟩ := open_diag q2
      rw [cells28] at q1
      exact ⟨d, (World.cells?_some q1).2.2, hd⟩
    have hsp : 0 < n → ad.spot = none := fun h => by
      obtain ⟨d, q, _⟩ := key 0 h
      have := World.cell?_spot (q 0 (by omega))
      simpa [Addr.add] using this
    obtain ⟨f, hf⟩ : ∃ f : Nat → Dg, ∀ i, i < n → (∀ j, j < 4 → w.cell? ((ad.add (i * 4)).add j) = (c4 (f i))[j]?) ∧ (f i).fl ≤ 9223372036854775807 :=
      ⟨fun i => if hi : i < n then Classical.choose (key i hi) else zD, fun i hi => by simp only [dif_pos hi]; exact Classical.choose_spec (key i hi)⟩
    refine ⟨ad.block, ad.off, f, fun h => ?_, fun h => by simp at h, fun i hi => ?_, fun h => ?_, fun i hi => (hf i hi).2, Nat.le_trans (Nat.le_trans hl hm) (by decide)⟩
    · have := hsp h
      cases ad; simp at this; subst this; rfl
    · have hs := hsp (by omega)
      obtain ⟨b, o, s⟩ := ad
      simp only at hs
      subst hs
      have q := (hf i hi).1
      have g : ∀ j, (((⟨b, o, none⟩ : Addr).add (i * 4)).add j) = ⟨b, o + i * 4 + j, none⟩ := fun j => by rw [Addr.add_mid, Addr.add_mid]
      have q0 := q 0 (by omega)
      have q1 := q 1 (by omega)
      have q2 := q 2 (by omega)
      have q3 := q 3 (by omega)
      rw [g] at q0 q1 q2 q3
      exact ⟨q0, q1, q2, q3⟩
    · have := (hf 0 h).1 0 (by omega)
      have := World.block_lt_of_cell? _ _ (u := .int .i64 (f 0).line) (by simpa [c4] using this)
      simpa [Addr.add] using this
end Go.Proofs.Qxb6002619a
