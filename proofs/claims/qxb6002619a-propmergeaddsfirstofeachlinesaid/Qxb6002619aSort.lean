/- zzClone, zzSortByFileLine -/
import Derived.Test.Qxb6002619aAdd
namespace Go.Proofs.Qxb6002619a
open Go.ChangeShapes Go.WideShapes Go.ChangeAt Go.RowKit
set_option linter.unusedVariables false
set_option linter.unusedSimpArgs false

theorem over_set (xs : List Dg) (i : Nat) (d : Dg) (h : i < xs.length) : over (row xs) (i * 4) (c4 d) = row (xs.set i d) := by
  rw [← row_one, over_row xs [d] i (by simp; omega), List.set_eq_take_append_cons_drop, if_pos h]
  simp
theorem mk22 (n : Nat) (hn : n ≤ 4096) (W : World) : (Instr.makeSlice 22 (.int .i64 (n : Int)) (.int .i64 (n : Int))).run Try.prog W = .ok (.slice (some ⟨W.heap.size, 0, none⟩) n n) (W.alloc (.cells (row (List.replicate n zD)).toArray 28)) := by
  obtain ⟨i, hi, hz, hsz, hb⟩ := info28
  have := run_make (P := Try.prog) W 22 28 i _ Try.underlying22 hi hz .i64 .i64 (n : Int) (n : Int) (by omega) (by omega) (by rw [hb]; omega) (by omega)
  simp only [Int.toNat_natCast, hsz] at this
  rw [this]
  show Result.ok _ (W.alloc (.cells (madeCells (c4 zD).toArray (n * 4)) 28)) = _
  have e : madeCells (c4 zD).toArray (n * 4) = (row (List.replicate n zD)).toArray := by
    rw [← zeros_row]
    apply Array.ext
    · simp [madeCells, Builtin.zeroCells, c4]
    · intro i h1 h2
      simp [madeCells, Builtin.zeroCells, c4]
  rw [e]
/-- what the first k rounds of zzClone have copied -/
def CInv (w : World) (n : Nat) (f : Nat → Dg) (k : Nat) (wr : World) : Prop :=
  (∃ xs, blkOf wr w.heap.size = row xs ∧ xs.length = n ∧ ∀ j, j < k → xs.getD j zD = f j) ∧ Below w.heap.size w wr
theorem CInv_start (w : World) (n : Nat) (f : Nat → Dg) : CInv w n f 0 (w.alloc (.cells (row (List.replicate n zD)).toArray 28)) :=
  ⟨⟨List.replicate n zD, by rw [blk_alloc, if_pos rfl], by simp, fun j hj => absurd hj (Nat.not_lt_zero j)⟩, (Below.refl _ _).alloc (Nat.le_refl _) _⟩
theorem CInv_step {w : World} {n : Nat} {f : Nat → Dg} {k : Nat} {wr : World} (h : CInv w n f k wr) (hk : k < n) : CInv w n f (k + 1) (put wr w.heap.size (k * 4) (c4 (f k))) := by
  obtain ⟨⟨xs, h1, h2, h3⟩, h4⟩ := h
  refine ⟨⟨xs.set k (f k), by rw [blk_put, if_pos rfl, h1, over_set xs k _ (by omega)], by simp [h2], fun j hj => ?_⟩, below_put _ h4 (Nat.le_refl _) _⟩
  by_cases e : j = k
  · subst e; simp [List.getD_eq_getElem?_getD, List.getElem?_set, h2, hk]
  · have := h3 j (by omega)
    rw [← this]; simp [List.getD_eq_getElem?_getD, List.getElem?_set, Ne.symm e]
theorem CInv_end {w : World} {n : Nat} {f : Nat → Dg} {k : Nat} {wr : World} (h : CInv w n f k wr) (hk : n ≤ k) : blkOf wr w.heap.size = row ((List.range n).map f) := by
  obtain ⟨⟨xs, h1, h2, h3⟩, h4⟩ := h
  rw [h1]
  congr 1
  apply List.ext_getElem
  · simp [h2]
  · intro i g1 g2
    have := h3 i (by omega)
    simp only [List.getElem_map, List.getElem_range]
    rw [← this, List.getD_eq_getElem?_getD, List.getElem?_eq_getElem g1]; rfl
theorem CInv_cell {w : World} {n : Nat} {f : Nat → Dg} {k : Nat} {wr : World} (h : CInv w n f k wr) (hk : k < n) : (∃ x, DAt wr w.heap.size 0 k x) ∧ ∀ o, wr.frozen? ⟨w.heap.size, o, none⟩ = false := by
  obtain ⟨⟨xs, h1, h2, h3⟩, h4⟩ := h
  exact ⟨⟨_, DAt_row h1 k (by omega)⟩, fun o => blk_frozen (by rw [h1, len_row]; omega)⟩
def ClPost (n : Nat) (f : Nat → Dg) (w : World) (e : Ending) (w' : World) : Prop :=
  ∃ a' : Option Addr, e = .returned (.slice a' n n) ∧ (0 < n → a' = some ⟨w.heap.size, 0, none⟩ ∧ blkOf w' w.heap.size = row ((List.range n).map f)) ∧ Below w.heap.size w w'
set_option maxRecDepth 100000 in
set_option maxHeartbeats 1600000 in
theorem clone_any (a : Option Addr) (b o n c : Nat) (f : Nat → Dg) (w : World) (hn2 : n ≤ 4096) (ha : Hid (0 < n → a = some ⟨b, o, none⟩)) (hz : Hid (a = none → n = 0 ∧ c = 0)) (hd : Hid (∀ i, i < n → DAt w b o i (f i))) (hb : Hid (0 < n → b < w.heap.size)) :
    Calls Try.prog 8 #[.slice a n c] w fun e w' => ClPost n f w e w' := by
  have hn' : (n : Int) ≤ 4096 := by omega
  have e1 := fun W a n c => Lib.run_eql_slice_nil (P := Try.prog) W 22 28 a n c 0 0 Try.underlying22
  cases a with
  | none =>
    obtain ⟨rfl, rfl⟩ := unhide hz rfl
    clear ha hz hd hb
    go_enter Try.func8, Try.ntmps8
    go_wp2
    go_ret
    exact ⟨none, rfl, fun h => absurd h (Nat.lt_irrefl 0), Below.refl _ _⟩
  | some x =>
    clear hz
    have mk := fun W => mk22 n hn2 W
    go_enter Try.func8, Try.ntmps8
    go_wp2_with fail
    go_loopw [4] (fun i wr => ∃ k : Nat, k ≤ n ∧ i = .int .i64 k ∧ Hid (CInv w n f k wr)) (fun i _ => n - (intOf i).toNat)
    case atStart => exact ⟨0, Nat.zero_le _, rfl, hide (CInv_start _ _ _)⟩
    case round =>
      obtain ⟨k, hk, rfl, HI⟩ := hrel
      by_cases hlt : k < n
      · have es := unhide ha (by omega)
        cases es
        have hlt' : (k : Int) < (n : Int) := by omega
        obtain ⟨d1, d2, d3, d4⟩ := (unhide hd k hlt).below (unhide HI).2 (unhide hb (by omega))
        obtain ⟨⟨y, c1, c2, c3, c4'⟩, hf⟩ := CInv_cell (unhide HI) hlt
        simp only [Nat.zero_add] at c1 c2 c3 c4'
        have f0 := hf (k * 4)
        have f1 := hf (k * 4 + 1)
        have f2 := hf (k * 4 + 2)
        have f3 := hf (k * 4 + 3)
        have HS := hide (CInv_step (unhide HI) hlt)
        clear hf
        go_wp2_with fail
        go_roundw
        case rel => exact ⟨k + 1, by omega, by go_num, HS⟩
        case measure => simp [intOf]; omega
      · go_wp2_with fail
        go_ret
        exact ⟨_, rfl, fun _ => ⟨rfl, CInv_end (unhide HI) (by omega)⟩, (unhide HI).2⟩
end Go.Proofs.Qxb6002619a
