/- slices.Insert of one diagnostic: its roads -/
import Derived.Test.Qxb6002619aIns
namespace Go.Proofs.Qxb6002619a
open Go.ChangeShapes Go.WideShapes Go.ChangeAt Go.RowKit
set_option linter.unusedVariables false
set_option linter.unusedSimpArgs false

theorem one_cutrow (xs : List Dg) (i n : Nat) : ∀ v ∈ cut (row xs) (i * 4) (n * 4), v.oneCell' = true := by rw [cut_row]; exact one_row _
theorem ins_len {S : List Dg} {i : Nat} (d : Dg) (hi : i ≤ S.length) : (S.take i ++ [d] ++ S.drop i).length = S.length + 1 := by simp; omega

set_option maxRecDepth 100000 in
set_option maxHeartbeats 1600000 in
/-- at the end, with room -/
theorem ins_end_room (b c vb : Nat) (xs S : List Dg) (d : Dg) (w : World) (n : Nat) (hn : S.length = n) (hn2 : n ≤ 50) (hb : blkOf w b = row xs) (hc : xs.length = c) (hc2 : c ≤ 9223372036854775807) (hS : S = xs.take n) (hroom : n + 1 ≤ c) (hvb : vb ≠ b) (hv : blkOf w vb = row [d]) :
    Calls Try.prog 16 #[.slice (some ⟨b, 0, none⟩) n c, .int .i64 (n : Int), .slice (some ⟨vb, 0, none⟩) 1 1] w fun e w' => InsPost S n d b w e w' := by
  have hr : ∀ ty, (Builtin.append_ #[22, 22] ty #[.slice (some ⟨b, 0, none⟩) n c, .slice (some ⟨vb, 0, none⟩) 1 1]).run Try.prog w = .ok (.slice (some ⟨b, 0, none⟩) (n + 1) c) (put w b (n * 4) (row [d])) := fun ty => by
    obtain ⟨i, hi, hz, hs, hby⟩ := info28
    have hl : (blkOf w b).length = c * 4 := by rw [hb, len_row, hc]
    have ht := blk_there (W := w) (b := b) (n * 4) 4 (by omega) (by omega)
    have hr := blk_range (W := w) (b := vb) 0 4 (by rw [hv, len_row]; simp)
    have hcv : cut (blkOf w vb) 0 4 = row [d] := by rw [hv]; rfl
    rw [hcv] at hr
    have := run_append_room_cells (P := Try.prog) w 22 ty 28 i Try.underlying22 hi b 0 n c ⟨vb, 0, none⟩ 1 1 (row [d]) (by rw [hs]; rfl)
      (fun j u hj => by rw [Addr.add_mid]; exact hr j u hj) (one_row _) hroom (fun j hj => by rw [hs]; simpa using (ht j hj).1) (fun j hj => by rw [hs]; simpa using (ht j hj).2)
    rw [this, hs, Nat.zero_add]
    rfl
  have HP : Hid (∀ e, e = Ending.returned (.slice (some ⟨b, 0, none⟩) (n + 1) c) → InsPost S n d b w e (put w b (n * 4) (row [d]))) := hide fun e he => by
    refine ⟨b, c, xs.take n ++ [d] ++ xs.drop (n + 1), by rw [he, hn], ?_, ?_, hc2, ?_, Or.inl rfl, (Kept.refl _ _).put _ _⟩
    · rw [blk_put, if_pos rfl, hb, over_row xs [d] n (by simp; omega)]; rfl
    · simp; omega
    · have e1 : (xs.take n ++ [d]).length = n + 1 := by simp; omega
      rw [hn, List.take_append_of_le_length (by omega), List.take_of_length_le (by omega), hS]
      simp
      rw [List.take_take, Nat.min_self]
  have Hr := hide hr
  clear hr hb hv hS
  go_enter Try.func16, Try.ntmps16
  go_wp2_with (at_builtin; refine Lib.wpList_append_run _ rfl _ _ _ _ rfl _ _ rfl rfl _ _ (unhide Hr _) ?_)
  go_ret
  exact unhide HP _ rfl

set_option maxRecDepth 100000 in
set_option maxHeartbeats 1600000 in
/-- at the end, without room: a new row -/
theorem ins_end_grow (a : Option Addr) (b c vb : Nat) (xs S : List Dg) (d : Dg) (w : World) (n : Nat) (hn : S.length = n) (hn2 : n ≤ 50) (ha : (a = none ∧ n = 0 ∧ c = 0) ∨ (a = some ⟨b, 0, none⟩ ∧ blkOf w b = row xs ∧ xs.length = c ∧ S = xs.take n)) (hroom : c = n) (hv : blkOf w vb = row [d]) :
    Calls Try.prog 16 #[.slice a n c, .int .i64 (n : Int), .slice (some ⟨vb, 0, none⟩) 1 1] w fun e w' => InsPost S n d b w e w' := by
  have hnews : ∀ j v, (row [d])[j]? = some v → w.cell? ((⟨vb, 0, none⟩ : Addr).add j) = some v := fun j u hj => by
    have hr := blk_range (W := w) (b := vb) 0 4 (by rw [hv, len_row]; simp)
    rw [show cut (blkOf w vb) 0 4 = row [d] by rw [hv]; rfl] at hr
    rw [Addr.add_mid]; exact hr j u hj
  have hr : ∃ C, n + 1 ≤ C ∧ C ≤ 9223372036854775807 ∧ ∀ ty, (Builtin.append_ #[22, 22] ty #[.slice a n c, .slice (some ⟨vb, 0, none⟩) 1 1]).run Try.prog w = .ok (.slice (some ⟨w.heap.size, 0, none⟩) (n + 1) C) (w.drew.alloc (.cells (row (S ++ [d] ++ List.replicate (C - (n + 1)) zD)).toArray 28)) := by
    obtain ⟨i, hi, hz, hs, hby⟩ := info28
    rcases ha with ⟨rfl, rfl, rfl⟩ | ⟨rfl, hb, hc, hS⟩
    · refine ⟨grownCap w 1 0 28, grownCap_ge _ _ _ _, grownCap_le_maxLen _ _ _ _ (by decide), fun ty => ?_⟩
      have := run_append_nil (P := Try.prog) w 22 ty 28 i _ Try.underlying22 hi hz ⟨vb, 0, none⟩ 1 1 (row [d]) (by rw [hs]; rfl) hnews (by decide) (by decide) (by rw [hby]; decide)
      rw [this]
      have hS0 : S = [] := List.length_eq_zero_iff.1 hn
      subst hS0
      show Result.ok _ (w.drew.alloc (.cells ((row [d]).toArray ++ Builtin.zeroCells (c4 zD).toArray _) 28)) = _
      rw [zeros_row, List.nil_append, row_append]
      simp
    · have hl : (blkOf w b).length = c * 4 := by rw [hb, len_row, hc]
      refine ⟨grownCap w (n + 1) c 28, grownCap_ge _ _ _ _, grownCap_le_maxLen _ _ _ _ (by unfold maxLen; omega), fun ty => ?_⟩
      have hold : ∀ j v, (row S)[j]? = some v → w.cell? ((⟨b, 0, none⟩ : Addr).add j) = some v := fun j u hj => by
        rw [Addr.add_mid]
        have hjl : j < (row S).length := (List.getElem?_eq_some_iff.1 hj).1
        rw [len_row] at hjl
        have hr := blk_range (W := w) (b := b) 0 (n * 4) (by omega)
        rw [show cut (blkOf w b) 0 (n * 4) = row S by rw [hb, show (0 : Nat) = 0 * 4 from rfl, cut_row, hS]; simp] at hr
        exact hr j u hj
      have hfit : Builtin.nextslicecap (n + 1) c * i.bytes ≤ 281474976710656 := growslice_fits (by omega) (by rw [hby]; omega)
      have := run_append_grow (P := Try.prog) w 22 ty 28 i _ Try.underlying22 hi hz ⟨b, 0, none⟩ n c (row S) (by rw [len_row, hn, hs]) hold ⟨vb, 0, none⟩ 1 1 (row [d]) (by rw [hs]; rfl) hnews (by omega) (by omega) hfit
      rw [this]
      show Result.ok _ (w.drew.alloc (.cells ((row S).toArray ++ (row [d]).toArray ++ Builtin.zeroCells (c4 zD).toArray _) 28)) = _
      rw [zeros_row, row_append, row_append]
      simp
  obtain ⟨C, hC1, hC2, hr⟩ := hr
  have HP : Hid (∀ e, e = Ending.returned (.slice (some ⟨w.heap.size, 0, none⟩) (n + 1) C) → InsPost S n d b w e (w.drew.alloc (.cells (row (S ++ [d] ++ List.replicate (C - (n + 1)) zD)).toArray 28))) := hide fun e he => by
    refine ⟨w.heap.size, C, S ++ [d] ++ List.replicate (C - (n + 1)) zD, by rw [he, hn], ?_, ?_, hC2, ?_, Or.inr (Nat.le_refl _), (Kept.refl _ _).drew.alloc _⟩
    · rw [blk_alloc]; simp
    · simp; omega
    · have e1 : (S ++ [d]).length = n + 1 := by simp; omega
      rw [hn, List.take_append_of_le_length (by omega), List.take_of_length_le (by omega), List.take_of_length_le (by omega)]
      simp [hn]
  generalize hX : row (S ++ [d] ++ List.replicate (C - (n + 1)) zD) = X at *
  have Hr := hide hr
  clear hr hv hnews ha hX
  have Hc := hide hroom
  clear hroom
  go_enter Try.func16, Try.ntmps16
  go_wp2_with (at_builtin; refine Lib.wpList_append_run _ rfl _ _ _ _ rfl _ _ rfl rfl _ _ (unhide Hr _) ?_)
  go_ret
  exact unhide HP _ rfl
end Go.Proofs.Qxb6002619a
