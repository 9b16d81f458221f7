/- slices.Insert of one diagnostic, in the midst -/
import Derived.Test.Qxb6002619aIns2
namespace Go.Proofs.Qxb6002619a
open Go.ChangeShapes Go.WideShapes Go.ChangeAt Go.RowKit
set_option linter.unusedVariables false
set_option linter.unusedSimpArgs false

theorem swap_mid (A M M' B : List Dg) (a : Nat) (ha : A.length = a) (h : M.length = M'.length) : (A ++ M ++ B).take a ++ M' ++ (A ++ M ++ B).drop (a + M'.length) = A ++ M' ++ B := by
  subst ha
  rw [← h, List.append_assoc A M B, List.take_left]
  congr 1
  rw [← List.append_assoc, show A.length + M.length = (A ++ M).length by simp, List.drop_left]
theorem overlaps_no (w : World) (b vb o la lb cb : Nat) (hne : vb ≠ b) (hv : 0 < (blkOf w vb).length) (hb : 0 < (blkOf w b).length) :
    (callFunc 21 #[.slice (some ⟨vb, 0, none⟩) 1 1, .slice (some ⟨b, o, none⟩) lb cb]).run Try.prog w = .ok (.value (.bool false)) w := by
  obtain ⟨C, t, h1, h2⟩ := blk_some hv
  obtain ⟨C', t', h1', h2'⟩ := blk_some hb
  obtain ⟨i, hi, hz, hs, hby⟩ := info28
  rw [run_callFunc_extern Try.func21 (by kernel_rfl) (by kernel_rfl) (by kernel_rfl) (e := Extern.SlicesOverlaps.overlaps #[22, 22] #[4]) (by kernel_rfl),
    Lib.run_overlaps_apart w 22 4 28 Try.underlying22 4 (fun w => by simp [sizeOf, typeInfo, hi, hs]) ⟨vb, 0, none⟩ ⟨b, o, none⟩ 1 1 lb cb hne t t' C.size C'.size (by simp [World.shape?, h1]) (by simp [World.shape?, h1'])
      (by rw [h2'] at hb; simp at hb; omega) (by simp [World.frozen?, h1]) (by simp [World.frozen?, h1])]
  rfl

set_option maxRecDepth 100000 in
set_option maxHeartbeats 1600000 in
/-- in the midst, with room -/
theorem ins_shift (b c vb : Nat) (xs S : List Dg) (d : Dg) (w : World) (n i : Nat) (hi : i < n) (hn : S.length = n) (hn2 : n ≤ 50) (hb : blkOf w b = row xs) (hc : xs.length = c) (hc2 : c ≤ 9223372036854775807) (hS : S = xs.take n) (hroom : n + 1 ≤ c) (hvb : vb ≠ b) (hv : blkOf w vb = row [d]) :
    Calls Try.prog 16 #[.slice (some ⟨b, 0, none⟩) n c, .int .i64 (i : Int), .slice (some ⟨vb, 0, none⟩) 1 1] w fun e w' => InsPost S i d b w e w' := by
  have hlb : (blkOf w b).length = c * 4 := by rw [hb, len_row, hc]
  have hov : ∀ lb cb, (callFunc 21 #[.slice (some ⟨vb, 0, none⟩) 1 1, .slice (some ⟨b, (i + 1) * 4, none⟩) lb cb]).run Try.prog w = .ok (.value (.bool false)) w := fun lb cb => overlaps_no w b vb _ 1 lb cb hvb (by rw [hv, len_row]; simp) (by omega)
  have b1 : (i : Int) < (n : Int) := by omega
  have b2 : (n : Int) ≤ 50 := by omega
  have b3 : ((i : Int) == (n : Int)) = false := by simp; omega
  have b4 : ¬ (c : Int) < (n : Int) + 1 := by omega
  have b5 : ¬ c = i + 1 := by omega
  have b6 : ¬ c = i := by omega
  have w1 : IntKind.i64.wrap ((i : Int) + 1) = (i : Int) + 1 := by rw [IntKind.wrap_i64]; omega
  have w2 : (0 : Int) ≤ (i : Int) + 1 := by omega
  have w3 : ((i : Int) + 1).toNat = i + 1 := by omega
  have w4 : i + 1 ≤ n + 1 := by omega
  have w5 : i ≤ n + 1 := by omega
  have w6 : (i : Int) + 1 ≤ (n : Int) + 1 := by omega
  have w7 : (i : Int) ≤ (n : Int) + 1 := by omega
  have w8 : i ≤ n := by omega
  have hmid : ((xs.drop i).take (n - i)).length = n - i := by simp; omega
  have hcp1 : ∀ ty dl dc sl sc : Nat, dl = n - i → sl = n + 1 - i → (Builtin.copy_ #[22, 22] ty #[.slice (some ⟨b, (i + 1) * 4, none⟩) dl dc, .slice (some ⟨b, i * 4, none⟩) sl sc]).run Try.prog w.drew = .ok (goInt (n - i : Nat)) (put w.drew b ((i + 1) * 4) (row ((xs.drop i).take (n - i)))) := fun ty dl dc sl sc h1 h2 => by
    subst h1 h2
    have := run_copy_blk w.drew ty b ((i + 1) * 4) (n - i) dc b (i * 4) (n + 1 - i) sc (n - i) (by simp only [Nat.min_def]; split <;> omega) (by omega) (by rw [blk_drew, hlb]; omega) (by rw [blk_drew, hlb]; omega) (by rw [blk_drew, hb]; exact one_cutrow _ _ _)
    rw [blk_drew, hb, cut_row] at this
    exact this
  have hb1 : blkOf (put w.drew b ((i + 1) * 4) (row ((xs.drop i).take (n - i)))) b = row (xs.take (i + 1) ++ (xs.drop i).take (n - i) ++ xs.drop (n + 1)) := by
    rw [blk_put, if_pos rfl, blk_drew, hb, over_row _ _ _ (by rw [hmid]; omega), hmid, show i + 1 + (n - i) = n + 1 by omega]
  have hv1 : blkOf (put w.drew b ((i + 1) * 4) (row ((xs.drop i).take (n - i)))) vb = row [d] := by rw [blk_put, if_neg hvb, blk_drew, hv]
  have hk1 : Kept b w (put w.drew b ((i + 1) * 4) (row ((xs.drop i).take (n - i)))) := (Kept.refl _ _).drew.put _ _
  have hl1 : (xs.take (i + 1) ++ (xs.drop i).take (n - i) ++ xs.drop (n + 1)).length = c := by simp; omega
  generalize put w.drew b ((i + 1) * 4) (row ((xs.drop i).take (n - i))) = W1 at *
  have hcp2 : ∀ ty dl dc : Nat, dl = n + 1 - i → (Builtin.copy_ #[22, 22] ty #[.slice (some ⟨b, i * 4, none⟩) dl dc, .slice (some ⟨vb, 0, none⟩) 1 1]).run Try.prog W1 = .ok (goInt (1 : Nat)) (put W1 b (i * 4) (row [d])) := fun ty dl dc h1 => by
    subst h1
    have := run_copy_blk W1 ty b (i * 4) (n + 1 - i) dc vb 0 1 1 1 (by simp only [Nat.min_def]; split <;> omega) (by omega) (by rw [hv1, len_row]; simp) (by rw [hb1, len_row, hl1]; omega) (by rw [hv1]; exact one_row [d])
    rw [hv1] at this
    exact this
  have hb2 : blkOf (put W1 b (i * 4) (row [d])) b = row (xs.take i ++ [d] ++ (xs.drop i).take (n - i) ++ xs.drop (n + 1)) := by
    rw [blk_put, if_pos rfl, hb1, over_row _ [d] i (by rw [hl1]; simp; omega)]
    congr 1
    have e1 : (xs.take (i + 1) ++ (xs.drop i).take (n - i) ++ xs.drop (n + 1)).take i = xs.take i := by
      rw [List.append_assoc, List.take_append_of_le_length (by simp; omega), List.take_take, Nat.min_eq_left (by omega)]
    have e2 : (xs.take (i + 1) ++ (xs.drop i).take (n - i) ++ xs.drop (n + 1)).drop (i + [d].length) = (xs.drop i).take (n - i) ++ xs.drop (n + 1) := by
      rw [List.append_assoc, List.drop_append_of_le_length (by simp; omega), List.drop_of_length_le (by simp; omega), List.nil_append]
    rw [e1, e2, List.append_assoc, List.append_assoc, List.append_assoc]
  have HP : Hid (∀ e, e = Ending.returned (.slice (some ⟨b, 0, none⟩) (n + 1) c) → InsPost S i d b w e (put W1 b (i * 4) (row [d]))) := hide fun e he => by
    refine ⟨b, c, _, by rw [he, hn], hb2, ?_, hc2, ?_, Or.inl rfl, hk1.put _ _⟩
    · simp; omega
    · rw [hn, List.take_append_of_le_length (by simp; omega), List.take_of_length_le (by simp; omega), hS, List.take_take, Nat.min_eq_left (by omega), List.drop_take]
  have Hc1 := hide hcp1
  have Hc2 := hide hcp2
  clear hcp1 hcp2 hb2 hb1 hv1 hk1 hl1 hmid
  go_enter Try.func16, Try.ntmps16
  go_wp2_with (simp only [hov])
  go_region_law (refine step_copy_run rfl (.tmp 73) (.tmp 76) 22 22 rfl (.slice (some ⟨b, (i + 1) * 4, none⟩) (n - i) (c - (i + 1))) (.slice (some ⟨b, i * 4, none⟩) (n + 1 - i) (c - i)) (by simp [Act.eval, Act.put]) (by simp [Act.eval, Act.put]) (unhide Hc1 3 (n - i) (c - (i + 1)) (n + 1 - i) (c - i) rfl rfl) ?_)
  have hcp2 := fun ty dc => unhide Hc2 ty (n + 1 - i) dc rfl
  go_wp2_with fail
  go_ret
  exact unhide HP _ rfl

set_option maxRecDepth 100000 in
set_option maxHeartbeats 1600000 in
/-- in the midst, without room: a new row -/
theorem ins_grow (b c vb : Nat) (xs S : List Dg) (d : Dg) (w : World) (n i : Nat) (hi : i < n) (hn : S.length = n) (hn2 : n ≤ 50) (hb : blkOf w b = row xs) (hc : xs.length = c) (hS : S = xs.take n) (hroom : c = n) (hvb : vb ≠ b) (hv : blkOf w vb = row [d]) :
    Calls Try.prog 16 #[.slice (some ⟨b, 0, none⟩) n c, .int .i64 (i : Int), .slice (some ⟨vb, 0, none⟩) 1 1] w fun e w' => InsPost S i d b w e w' := by
  have hlb : (blkOf w b).length = c * 4 := by rw [hb, len_row, hc]
  have hbl : b < w.heap.size := blk_lt (o := 0) (by omega)
  have hvl : vb < w.heap.size := blk_lt (o := 0) (by rw [hv, len_row]; simp)
  obtain ⟨k, hk⟩ : ∃ k : Nat, k = n + 1 - i := ⟨_, rfl⟩
  have hk2 : (n : Int) + 1 - (i : Int) = (k : Int) := by omega
  obtain ⟨C, hC1, hC2, hr⟩ : ∃ C, n + 1 ≤ C ∧ C ≤ 9223372036854775807 ∧ ∀ ty, (Builtin.append_ #[22, 3] ty #[.slice (some ⟨b, 0, none⟩) i c, .int .i64 (k : Int)]).run Try.prog w = .ok (.slice (some ⟨w.heap.size, 0, none⟩) (n + 1) C) (w.drew.alloc (.cells (row (xs.take i ++ List.replicate k zD ++ List.replicate (C - (n + 1)) zD)).toArray 28)) := by
    obtain ⟨q, hi', hz, hs, hby⟩ := info28
    have e : i + k = n + 1 := by omega
    refine ⟨grownCap w (n + 1) c 28, grownCap_ge _ _ _ _, grownCap_le_maxLen _ _ _ _ (by unfold maxLen; omega), fun ty => ?_⟩
    have hold : (Builtin.firstCells q.size i (.slice (some ⟨b, 0, none⟩) i c)).run Try.prog w.drew = .ok (row (xs.take i)).toArray w.drew := by
      rw [hs]
      by_cases h0 : i = 0
      · subst h0
        have := run_loadCells_list (P := Try.prog) w.drew ⟨b, 0, none⟩ [] (by simp)
        simpa [Builtin.firstCells, row] using this
      · have hr := blk_range (W := w.drew) (b := b) 0 (i * 4) (by rw [blk_drew]; omega)
        rw [show cut (blkOf w.drew b) 0 (i * 4) = row (xs.take i) by rw [blk_drew, hb, show (0 : Nat) = 0 * 4 from rfl, cut_row]; simp] at hr
        have hl : (row (xs.take i)).length = i * 4 := by rw [len_row]; simp; omega
        exact run_firstCells_some (P := Try.prog) w.drew 4 i ⟨b, 0, none⟩ i c (row (xs.take i)) hl (fun j v hj => by rw [Addr.add_mid]; exact hr j v hj)
    have hfit : Builtin.nextslicecap (i + k) c * q.bytes ≤ 281474976710656 := growslice_fits (by omega) (by rw [hby]; omega)
    have := Lib.run_append_grow_zeros (P := Try.prog) w 22 3 ty 28 q _ .i64 .i64 Try.underlying22 Try.underlying3 hi' hz (some ⟨b, 0, none⟩) i c (row (xs.take i)) hold k (by omega) (by omega) (by omega) (by omega) (by rw [hby]; omega) hfit
    rw [this, e]
    show Result.ok _ (w.drew.alloc (.cells ((row (xs.take i)).toArray ++ Builtin.zeroCells (c4 zD).toArray k ++ Builtin.zeroCells (c4 zD).toArray _) 28)) = _
    rw [zeros_row, zeros_row, row_append, row_append]
    simp
  have hb1 : blkOf (w.drew.alloc (.cells (row (xs.take i ++ List.replicate k zD ++ List.replicate (C - (n + 1)) zD)).toArray 28)) w.heap.size = row (xs.take i ++ List.replicate k zD ++ List.replicate (C - (n + 1)) zD) := by rw [blk_alloc]; simp
  have hv1 : blkOf (w.drew.alloc (.cells (row (xs.take i ++ List.replicate k zD ++ List.replicate (C - (n + 1)) zD)).toArray 28)) vb = row [d] := by rw [blk_alloc, if_neg (by simp; omega), blk_drew, hv]
  have hs1 : blkOf (w.drew.alloc (.cells (row (xs.take i ++ List.replicate k zD ++ List.replicate (C - (n + 1)) zD)).toArray 28)) b = row xs := by rw [blk_alloc, if_neg (by simp; omega), blk_drew, hb]
  have hk1 : Kept b w (w.drew.alloc (.cells (row (xs.take i ++ List.replicate k zD ++ List.replicate (C - (n + 1)) zD)).toArray 28)) := (Kept.refl _ _).drew.alloc _
  have hl1 : (xs.take i ++ List.replicate k zD ++ List.replicate (C - (n + 1)) zD).length = C := by simp; omega
  generalize w.drew.alloc (.cells (row (xs.take i ++ List.replicate k zD ++ List.replicate (C - (n + 1)) zD)).toArray 28) = W1 at *
  have hcp1 : ∀ ty dl dc : Nat, dl = n + 1 - i → (Builtin.copy_ #[22, 22] ty #[.slice (some ⟨w.heap.size, i * 4, none⟩) dl dc, .slice (some ⟨vb, 0, none⟩) 1 1]).run Try.prog W1 = .ok (goInt (1 : Nat)) (put W1 w.heap.size (i * 4) (row [d])) := fun ty dl dc h1 => by
    subst h1
    have := run_copy_blk W1 ty w.heap.size (i * 4) (n + 1 - i) dc vb 0 1 1 1 (by simp only [Nat.min_def]; split <;> omega) (by omega) (by rw [hv1, len_row]; simp) (by rw [hb1, len_row, hl1]; omega) (by rw [hv1]; exact one_row [d])
    rw [hv1] at this
    exact this
  have hb2 : blkOf (put W1 w.heap.size (i * 4) (row [d])) w.heap.size = row (xs.take i ++ [d] ++ List.replicate (n - i) zD ++ List.replicate (C - (n + 1)) zD) := by
    rw [blk_put, if_pos rfl, hb1, over_row _ [d] i (by rw [hl1]; simp; omega)]
    congr 1
    have := swap_mid (xs.take i) [zD] [d] (List.replicate (n - i) zD ++ List.replicate (C - (n + 1)) zD) i (by simp; omega) rfl
    have e : xs.take i ++ List.replicate k zD ++ List.replicate (C - (n + 1)) zD = xs.take i ++ [zD] ++ (List.replicate (n - i) zD ++ List.replicate (C - (n + 1)) zD) := by
      rw [hk, show n + 1 - i = (n - i) + 1 by omega, List.replicate_succ]; simp
    rw [e, this]; simp
  have hs2 : blkOf (put W1 w.heap.size (i * 4) (row [d])) b = row xs := by rw [blk_put, if_neg (by omega), hs1]
  have hk2' : Kept b w (put W1 w.heap.size (i * 4) (row [d])) := hk1.putNew (Nat.le_refl _) _ _
  generalize put W1 w.heap.size (i * 4) (row [d]) = W2 at *
  have hmid : ((xs.drop i).take (n - i)).length = n - i := by simp; omega
  have hl2 : (xs.take i ++ [d] ++ List.replicate (n - i) zD ++ List.replicate (C - (n + 1)) zD).length = C := by simp; omega
  have hcp2 : ∀ ty dl dc sl sc : Nat, dl = n - i → sl = n - i → (Builtin.copy_ #[22, 22] ty #[.slice (some ⟨w.heap.size, (i + 1) * 4, none⟩) dl dc, .slice (some ⟨b, i * 4, none⟩) sl sc]).run Try.prog W2.drew = .ok (goInt (n - i : Nat)) (put W2.drew w.heap.size ((i + 1) * 4) (row ((xs.drop i).take (n - i)))) := fun ty dl dc sl sc h1 h2 => by
    subst h1 h2
    have := run_copy_blk W2.drew ty w.heap.size ((i + 1) * 4) (n - i) dc b (i * 4) (n - i) sc (n - i) (by simp) (by omega) (by rw [blk_drew, hs2, len_row, hc]; omega) (by rw [blk_drew, hb2, len_row, hl2]; omega) (by rw [blk_drew, hs2]; exact one_cutrow _ _ _)
    rw [blk_drew, hs2, cut_row] at this
    exact this
  have hb3 : blkOf (put W2.drew w.heap.size ((i + 1) * 4) (row ((xs.drop i).take (n - i)))) w.heap.size = row (xs.take i ++ [d] ++ (xs.drop i).take (n - i) ++ List.replicate (C - (n + 1)) zD) := by
    rw [blk_put, if_pos rfl, blk_drew, hb2, over_row _ _ (i + 1) (by rw [hl2, hmid]; omega)]
    congr 1
    exact swap_mid (xs.take i ++ [d]) (List.replicate (n - i) zD) ((xs.drop i).take (n - i)) (List.replicate (C - (n + 1)) zD) (i + 1) (by simp; omega) (by rw [hmid]; simp)
  have HP : Hid (∀ e, e = Ending.returned (.slice (some ⟨w.heap.size, 0, none⟩) (n + 1) C) → InsPost S i d b w e (put W2.drew w.heap.size ((i + 1) * 4) (row ((xs.drop i).take (n - i))))) := hide fun e he => by
    refine ⟨w.heap.size, C, _, by rw [he, hn], hb3, ?_, hC2, ?_, Or.inr (Nat.le_refl _), hk2'.drew.putNew (Nat.le_refl _) _ _⟩
    · simp; omega
    · rw [hn, List.take_append_of_le_length (by simp; omega), List.take_of_length_le (by simp; omega), hS, List.take_take, Nat.min_eq_left (by omega), List.drop_take]
  have Hr := hide hr
  have Hc2 := hide hcp2
  have hcp1' := fun ty dc => hcp1 ty (n + 1 - i) dc rfl
  have b1 : (i : Int) < (n : Int) := by omega
  have b2 : (n : Int) ≤ 50 := by omega
  have b3 : ((i : Int) == (n : Int)) = false := by simp; omega
  have b4 : (c : Int) < (n : Int) + 1 := by omega
  have b5 : ¬ C = i + 1 := by omega
  have b6 : ¬ C = i := by omega
  have b7 : ¬ c = i := by omega
  have w1 : IntKind.i64.wrap ((i : Int) + 1) = (i : Int) + 1 := by rw [IntKind.wrap_i64]; omega
  have w2 : (0 : Int) ≤ (i : Int) + 1 := by omega
  have w3 : ((i : Int) + 1).toNat = i + 1 := by omega
  have w4 : i + 1 ≤ n + 1 := by omega
  have w5 : i ≤ n + 1 := by omega
  have w8 : i ≤ n := by omega
  have w9 : i ≤ c := by omega
  clear hr hcp1 hcp2 hb1 hb2 hb3 hs1 hs2 hv1 hk1 hk2' hl1 hl2 hmid hb hv hS
  have Hk := hide hk
  have Hroom := hide hroom
  clear hk hroom
  go_enter Try.func16, Try.ntmps16
  go_wp2_with (at_builtin; refine Lib.wpList_append_run _ rfl _ _ _ _ rfl _ _ rfl rfl _ _ (unhide Hr _) ?_)
  go_region_law (refine step_copy_run rfl (.tmp 50) (.tmp 53) 22 22 rfl (.slice (some ⟨w.heap.size, (i + 1) * 4, none⟩) (n - i) (C - (i + 1))) (.slice (some ⟨b, i * 4, none⟩) (n - i) (c - i)) (by simp [Act.eval, Act.put]) (by simp [Act.eval, Act.put]) (unhide Hc2 3 (n - i) (C - (i + 1)) (n - i) (c - i) rfl rfl) ?_)
  go_wp2_with fail
  go_ret
  exact unhide HP _ rfl
end Go.Proofs.Qxb6002619a
