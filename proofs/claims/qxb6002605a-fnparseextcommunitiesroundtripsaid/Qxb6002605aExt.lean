/- slices in blocks of the call's own; (*Attributes).parseExtCommunities -/
import Derived.Test.Qxb6002605aKeyLaws
import Derived.Laws.MakeOwn
import Derived.ArgAppend
namespace Go.Proofs.Qxb6002605a
open Go.ChangeShapes Go.WideShapes Go.ChangeAt Go.RowKit
set_option linter.unusedVariables false
set_option linter.unusedSimpArgs false

theorem info5 : ∃ i, Try.prog.info? 5 = some i ∧ i.zero = some (.int .u8 0) ∧ i.size = 1 ∧ i.bytes = 1 := by
  have h : (Try.prog.info? 5).map (fun i => (i.zero, i.size, i.bytes)) = some (some (.int .u8 0), 1, 1) := by kernel_rfl
  cases hq : Try.prog.info? 5 with
  | none => simp [hq] at h
  | some i => simp [hq] at h; exact ⟨i, rfl, h.1, h.2.1, h.2.2⟩
theorem info40 : ∃ i, Try.prog.info? 40 = some i ∧ i.zero = some (.agg (arr 8 zf).toArray) ∧ i.size = 8 ∧ i.bytes = 8 := by
  have h : (Try.prog.info? 40).map (fun i => (i.zero, i.size, i.bytes)) = some (some (.agg (arr 8 zf).toArray), 8, 8) := by kernel_rfl
  cases hq : Try.prog.info? 40 with
  | none => simp [hq] at h
  | some i => simp [hq] at h; exact ⟨i, rfl, h.1, h.2.1, h.2.2⟩
theorem made1 (n : Nat) : madeCells #[.int .u8 0] n = (arr n zf).toArray := by
  apply Array.ext
  · simp [madeCells, arr]
  · intro i h1 h2
    simp [madeCells, arr, zf, Nat.mod_one]
theorem made8 (n : Nat) : madeCells (arr 8 zf).toArray n = (arr n zf).toArray := by
  apply Array.ext
  · simp [madeCells, arr]
  · intro i h1 h2
    have h8 : i % 8 < 8 := Nat.mod_lt _ (by decide)
    simp [madeCells, arr, zf, h8]
theorem mk22 (n : Nat) (hn : n ≤ 1048576) (W : World) : (Instr.makeSlice 22 (.int .i64 (n : Int)) (.int .i64 (n : Int))).run Try.prog W = .ok (.slice (some ⟨W.heap.size, 0, none⟩) n n) (W.alloc (.cells (arr n zf).toArray 5)) := by
  obtain ⟨i, hi, hz, hs, hb⟩ := info5
  have := run_make (P := Try.prog) W 22 5 i _ Try.underlying22 hi hz .i64 .i64 (n : Int) (n : Int) (by omega) (by omega) (by rw [hb]; omega) (by omega)
  simp only [Int.toNat_natCast, hs, Nat.mul_one] at this
  rw [this]
  show Result.ok _ (W.alloc (.cells (madeCells #[.int .u8 0] n) 5)) = _
  rw [made1]
theorem mk38 (l n : Nat) (hl : l ≤ n) (hn : n ≤ 1048576) (W : World) : (Instr.makeSlice 38 (.int .i64 (l : Int)) (.int .i64 (n : Int))).run Try.prog W = .ok (.slice (some ⟨W.heap.size, 0, none⟩) l n) (W.alloc (.cells (arr (n * 8) zf).toArray 40)) := by
  obtain ⟨i, hi, hz, hs, hb⟩ := info40
  have := run_make (P := Try.prog) W 38 40 i _ Try.underlying38 hi hz .i64 .i64 (l : Int) (n : Int) (by omega) (by omega) (by rw [hb]; omega) (by omega)
  simp only [Int.toNat_natCast, hs] at this
  rw [this]
  show Result.ok _ (W.alloc (.cells (madeCells (arr 8 zf).toArray (n * 8)) 40)) = _
  rw [made8]

/-! parts of rows of bytes -/
theorem arr_get (n : Nat) (f : Nat → Int) (k : Nat) (h : k < n) : (arr n f)[k]? = some (.int .u8 (f k)) := by simp [arr, h]
theorem arr_congr {n : Nat} {f g : Nat → Int} (h : ∀ j, j < n → f j = g j) : arr n f = arr n g := by
  unfold arr
  apply List.map_congr_left
  intro i hi
  rw [h i (by simpa using hi)]
theorem arr_set (n : Nat) (g : Nat → Int) (k : Nat) (x : Int) : (arr n g).set k (.int .u8 x) = arr n (fun j => if j = k then x else g j) := by
  apply List.ext_getElem?
  intro i
  by_cases hi : i < n
  · by_cases e : k = i
    · subst e; simp [arr, hi]
    · have e' : ¬ i = k := fun h => e h.symm
      simp [arr, hi, e, e', List.getElem?_set]
  · have h1 : (arr n (fun j => if j = k then x else g j))[i]? = none := by simp [arr]; omega
    have h2 : ((arr n g).set k (.int .u8 x))[i]? = none := by simp [arr]; omega
    rw [h1, h2]
theorem over_arr : ∀ (m : Nat) (n : Nat) (g h : Nat → Int) (o : Nat), over (arr n g) o ((List.range m).map fun i => .int .u8 (h i)) = arr n (fun j => if o ≤ j ∧ j < o + m then h (j - o) else g j)
  | 0, n, g, h, o => by
    show arr n g = _
    exact arr_congr fun j _ => by rw [if_neg (by omega)]
  | m + 1, n, g, h, o => by
    rw [List.range_succ_eq_map, List.map_cons, List.map_map]
    show over ((arr n g).set o (.int .u8 (h 0))) (o + 1) _ = _
    rw [arr_set]
    have := over_arr m n (fun j => if j = o then h 0 else g j) (fun i => h (i + 1)) (o + 1)
    have e : ((fun i => Value.int IntKind.u8 (h i)) ∘ Nat.succ) = fun i => Value.int IntKind.u8 (h (i + 1)) := rfl
    rw [e, this]
    refine arr_congr fun j _ => ?_
    by_cases c1 : o + 1 ≤ j ∧ j < o + 1 + m
    · rw [if_pos c1, if_pos (by omega)]
      congr 1; omega
    · rw [if_neg c1]
      by_cases c2 : j = o
      · subst c2; simp
      · rw [if_neg c2, if_neg (by omega)]
theorem cut_arr (n : Nat) (f : Nat → Int) (o m : Nat) (h : o + m ≤ n) : cut (arr n f) o m = arr m (fun i => f (o + i)) := by
  unfold cut
  apply List.ext_getElem?
  intro i
  by_cases hi : i < m
  · simp [arr, hi, List.getElem?_take, List.getElem?_drop, show o + i < n by omega]
  · simp [arr, hi, List.getElem?_take]
end Go.Proofs.Qxb6002605a
