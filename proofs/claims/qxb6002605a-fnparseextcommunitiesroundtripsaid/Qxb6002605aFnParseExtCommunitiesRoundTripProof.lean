/- A proof of 'Rows.FnParseExtCommunitiesRoundTripSaid'. The frame is the kit's shell; the walk is ours. -/
import Derived.Test.Qxb6002605aExtW1
import Derived.Test.Qxb6002605aExtW2
import Derived.Test.Qxb6002605aExtW3
import Derived.Test.Qxb6002605aExtW4
import Derived.WalkKit
import Derived.ProofKit
import Derived.OpenShut
import Derived.ShutString
import Derived.ChangeOld
import Derived.Below
namespace Go.Proofs.Qxb6002605a.fnParseExtCommunitiesRoundTrip
open Go.ChangeShapes Go.WideShapes Go.ChangeAt Go.RowKit
open Go.ChangeMaps (open_string shut_string)
set_option linter.unusedVariables false

theorem own : ownKnob Try.prog.godebug = none := by kernel_rfl
theorem laidOut : laidOutB Try.prog = true := by kernel_rfl

/-- WHAT THE WALK IS TOLD OF A SLICE OF INTEGERS THAT CAME IN: it is nil; or it leads to a row of 'cap' cells, the numbers 'zs' (the first 'len' are its elements, the rest its spare room), each fitting its kind. -/
def IsRow (k : IntKind) (w : World) (a : Option Addr) (len cap : Nat) (zs : List Int) : Prop :=
  (a = none ∧ len = 0 ∧ cap = 0 ∧ zs = []) ∨
  ∃ x, a = some x ∧ len ≤ cap ∧ cap ≤ maxLen ∧ zs.length = cap ∧ (∀ i, i < zs.length → w.cell? (x.add i) = some (.int k (zs.getD i 0))) ∧ ∀ n ∈ zs, (Lit.int k n).wf = true

/-! ### STEP 1: THE WALK -/
/-- a row that is not empty lies at a plain address -/
theorem row_at {w : World} {x : Addr} {zs : List Int} (hc : ∀ i, i < zs.length → w.cell? (x.add i) = some (.int .u8 (zs.getD i 0))) (n : Nat) (hn : n ≤ zs.length) :
    Hid (0 < n → x.spot = none) ∧ Hid (∀ i, i < n → w.cell? ⟨x.block, x.off + i, none⟩ = some (.int .u8 ((fun i => zs.getD i 0) i))) := by
  by_cases h0 : 0 < zs.length
  · obtain ⟨b, off, rfl, hc'⟩ := ints_at hc h0
    exact ⟨hide fun _ => rfl, hide fun i hi => hc' i (by omega)⟩
  · exact ⟨hide fun h => absurd h (by omega), hide fun i hi => absurd hi (by omega)⟩
theorem walk_in (a0 : Option Addr) (len0 cap0 : Nat) (z0 : List Int) (a1 : Option Addr) (len1 cap1 : Nat) (z1 : List Int) (w : World) (w0 : IsRow .u8 w a0 len0 cap0 z0) (w1 : IsRow .u8 w a1 len1 cap1 z1) (hn : len0 + len1 ≤ 1048576) :
    Calls Try.prog 5 #[.slice a0 len0 cap0, .slice a1 len1 cap1] w fun e w' => e = .returned (.bool true) ∧ Below w.heap.size w w' := by
  rcases w0 with ⟨rfl, rfl, rfl, rfl⟩ | ⟨x0, rfl, hl0, hm0, hz0, hc0, hw0⟩
  · rcases w1 with ⟨rfl, rfl, rfl, rfl⟩ | ⟨x1, rfl, hl1, hm1, hz1, hc1, hw1⟩
    · exact walk_nna1 w (by omega)
    · obtain ⟨r1, r2⟩ := row_at hc1 len1 (by omega)
      exact walk_noa1 x1.block x1.off x1.spot len1 cap1 (fun i => z1.getD i 0) w (by omega) r1 r2
  · obtain ⟨q1, q2⟩ := row_at hc0 len0 (by omega)
    by_cases h0 : len0 = 0
    · rcases w1 with ⟨rfl, rfl, rfl, rfl⟩ | ⟨x1, rfl, hl1, hm1, hz1, hc1, hw1⟩
      · exact walk_ona1 x0.block x0.off x0.spot len0 cap0 (fun i => z0.getD i 0) w (hide h0) (by omega) q1 q2
      · obtain ⟨r1, r2⟩ := row_at hc1 len1 (by omega)
        exact walk_ooa1 x0.block x0.off x0.spot len0 cap0 (fun i => z0.getD i 0) x1.block x1.off x1.spot len1 cap1 (fun i => z1.getD i 0) w (hide h0) hn q1 q2 r1 r2
    · by_cases h8 : len0 % 8 = 0
      · rcases w1 with ⟨rfl, rfl, rfl, rfl⟩ | ⟨x1, rfl, hl1, hm1, hz1, hc1, hw1⟩
        · exact walk_onb x0.block x0.off x0.spot len0 cap0 (fun i => z0.getD i 0) w (len0 / 8) (by omega) (hide (by omega)) (by omega) q1 q2
        · obtain ⟨r1, r2⟩ := row_at hc1 len1 (by omega)
          exact walk_oob x0.block x0.off x0.spot len0 cap0 (fun i => z0.getD i 0) x1.block x1.off x1.spot len1 cap1 (fun i => z1.getD i 0) w (len0 / 8) (by omega) (hide (by omega)) hn q1 q2 r1 r2
      · rcases w1 with ⟨rfl, rfl, rfl, rfl⟩ | ⟨x1, rfl, hl1, hm1, hz1, hc1, hw1⟩
        · exact walk_ona2 x0.block x0.off x0.spot len0 cap0 (fun i => z0.getD i 0) w (hide ⟨h0, h8⟩) (by omega) q1 q2
        · obtain ⟨r1, r2⟩ := row_at hc1 len1 (by omega)
          exact walk_ooa2 x0.block x0.off x0.spot len0 cap0 (fun i => z0.getD i 0) x1.block x1.off x1.spot len1 cap1 (fun i => z1.getD i 0) w (hide ⟨h0, h8⟩) hn q1 q2 r1 r2
theorem row_len {w : World} {a : Option Addr} {len cap : Nat} {zs : List Int} (h : IsRow .u8 w a len cap zs) : len ≤ maxLen := by
  rcases h with ⟨rfl, rfl, rfl, rfl⟩ | ⟨x, rfl, hl, hm, _⟩
  · exact Nat.zero_le _
  · exact Nat.le_trans hl hm
set_option maxRecDepth 100000 in
theorem walk (a0 : Option Addr) (len0 cap0 : Nat) (z0 : List Int) (a1 : Option Addr) (len1 cap1 : Nat) (z1 : List Int) (w : World) (w0 : IsRow .u8 w a0 len0 cap0 z0) (w1 : IsRow .u8 w a1 len1 cap1 z1) :
    Calls Try.prog 5 #[.slice a0 len0 cap0, .slice a1 len1 cap1] w fun e w' => e = .returned (.bool true) ∧ Below w.heap.size w w' := by
  by_cases hn : len0 + len1 ≤ 1048576
  · exact walk_in a0 len0 cap0 z0 a1 len1 cap1 z1 w w0 w1 hn
  · have Y := hide (ebytes_no a0 a1 len0 cap0 len1 cap1 w (row_len w0) (row_len w1) hn)
    clear w0 w1
    go_enter Try.func5, Try.ntmps5
    go_wp2_with fail
    refine (unhide Y).mono ?_
    rintro e w' ⟨rfl, rfl⟩
    go_wp2
    go_ret
    exact ⟨rfl, Below.refl _ _⟩

/-! ### THE ROW's STEP: WRITTEN OUT: LEAVE IT -/
set_option maxRecDepth 100000 in
theorem lifted (os : Os) (started : os.Started) (H : Type) (enc : TypeId × Value → H) :
    ReturnsInHanded {} Try.checked os 5 .any (Rows.fnParseExtCommunitiesRoundTripSpec.pre6 enc Try.prog Try.f5 Rows.fnParseExtCommunitiesRoundTripRow.domain false) (Rows.fnParseExtCommunitiesRoundTripSpec.post enc Try.prog Try.f5 false true false false) := by
  refine returnsInHanded_of_change (C := Try.checked) own started (by kernel_rfl) Try.func5
    (ChangeSpec.witness6 (enc := enc) (C := Try.checked) false ⟨#[], #[.slice none 0 0, .slice none 0 0], []⟩ 8 (by kernel_rfl) (by kernel_rfl) (by kernel_rfl) (by kernel_rfl)) ?_
  intro W base args ds gs before hval0 hW hcnd _
  have hval : ∀ (j : Nat) t v, Try.f5.params[j]? = some t → args[j]? = some v → Value.okWide Try.prog W .any base t v := hval0
  have hW' := hW
  obtain ⟨p, q, hA0, hV, rfl, hfz, hnd⟩ := hW
  have hA : DataW.TrodAll enc Try.prog W 0 (fun _ => true) true Try.f5.params.toList args.toList ds p := hA0
  rw [Try.params5] at hA hval
  obtain ⟨v0, vs0, d0, ds0, p0, q0, hargs, rfl, rfl, h0, r0⟩ := trodAll_cons hA
  obtain ⟨v1, vs1, d1, ds1, p1, q1, rfl, rfl, rfl, h1, r1⟩ := trodAll_cons r0
  obtain ⟨rfl, rfl, rfl⟩ := trodAll_nil r1
  obtain rfl : args = #[v0, v1] := by cases args; simp_all
  obtain ⟨rfl, rfl⟩ := trodVars_none hV
  obtain ⟨a0, len0, cap0, rfl⟩ := okWide_slice Try.underlying22 (hval 0 22 v0 rfl rfl)
  have k0 := h0
  have lt0 : ∀ x ∈ p0, x.block < W.heap.size := by obtain ⟨m, hm⟩ := k0; exact DataW.trod_lt m _ _ _ hm
  obtain ⟨z0, w0⟩ : ∃ zs, IsRow .u8 W a0 len0 cap0 zs := by
    obtain ⟨fuel, hf⟩ := h0
    rcases open_ints Try.underlying22 Try.underlying5 (by kernel_rfl) hf with ⟨hcs, _⟩ | ⟨x, l, c, zs, hcs, _, hl, hm, hz, _, hcell, hwz⟩
    · simp [Value.cells] at hcs
      obtain ⟨rfl, rfl, rfl⟩ := hcs
      exact ⟨[], .inl ⟨rfl, rfl, rfl, rfl⟩⟩
    · simp [Value.cells] at hcs
      obtain ⟨rfl, rfl, rfl⟩ := hcs
      exact ⟨zs, .inr ⟨_, rfl, hl, hm, by simpa using hz, hcell, hwz⟩⟩
  obtain ⟨a1, len1, cap1, rfl⟩ := okWide_slice Try.underlying22 (hval 1 22 v1 rfl rfl)
  have k1 := h1
  have lt1 : ∀ x ∈ p1, x.block < W.heap.size := by obtain ⟨m, hm⟩ := k1; exact DataW.trod_lt m _ _ _ hm
  obtain ⟨z1, w1⟩ : ∃ zs, IsRow .u8 W a1 len1 cap1 zs := by
    obtain ⟨fuel, hf⟩ := h1
    rcases open_ints Try.underlying22 Try.underlying5 (by kernel_rfl) hf with ⟨hcs, _⟩ | ⟨x, l, c, zs, hcs, _, hl, hm, hz, _, hcell, hwz⟩
    · simp [Value.cells] at hcs
      obtain ⟨rfl, rfl, rfl⟩ := hcs
      exact ⟨[], .inl ⟨rfl, rfl, rfl, rfl⟩⟩
    · simp [Value.cells] at hcs
      obtain ⟨rfl, rfl, rfl⟩ := hcs
      exact ⟨zs, .inr ⟨_, rfl, hl, hm, by simpa using hz, hcell, hwz⟩⟩
  clear hA0 hval0
  refine (walk a0 len0 cap0 z0 a1 len1 cap1 z1 W w0 w1).mono fun e W' ⟨he, bel⟩ => ?_
  subst he
  exact ⟨_, rfl, _, _, _, [], _, [], hW', trodAll_mk1 (shut_bool Try.underlying4 _), (trodAll_cons_mk (Below.trod laidOut (by kernel_rfl) (of_decide_eq_true (by kernel_rfl)) k0 bel lt0) (trodAll_cons_mk (Below.trod laidOut (by kernel_rfl) (of_decide_eq_true (by kernel_rfl)) k1 bel lt1) trodAll_mk0)), rfl, bel.frame _, fun h => by cases h⟩

theorem over : Rows.fnParseExtCommunitiesRoundTripRow.holds Try.pinned (OpenSpec.ofChange Rows.fnParseExtCommunitiesRoundTripSpec) :=
  OpenClaim.holds_of_wide 5 Try.f5 rfl rfl rfl rfl rfl rfl rfl ⟨rfl, rfl, rfl, rfl, rfl⟩ rfl rfl rfl rfl rfl (by kernel_rfl) Try.func5 (by kernel_rfl)
    (of_decide_eq_true (by kernel_rfl)) (by unfold Func.isWrapper; first | (rw [if_pos (by decide +kernel)]; kernel_rfl) | (rw [if_neg (by decide +kernel)]; exact ⟨rfl, rfl⟩))
    (fun os started H enc _ => lifted os started H enc)

/-- ████ THE STATEMENT ████ -/
theorem proved : Rows.FnParseExtCommunitiesRoundTripSaid := over
end Go.Proofs.Qxb6002605a.fnParseExtCommunitiesRoundTrip
