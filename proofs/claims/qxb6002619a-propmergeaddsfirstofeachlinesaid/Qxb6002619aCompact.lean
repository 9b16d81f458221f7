/- slices.CompactFunc -/
import Derived.Test.Qxb6002619aInsert
import Derived.Test.Qxb6002619aFirst
namespace Go.Proofs.Qxb6002619a
open Go.ChangeShapes Go.WideShapes Go.ChangeAt Go.RowKit
set_option linter.unusedVariables false
set_option linter.unusedSimpArgs false

set_option maxHeartbeats 400000 in
/-- the equality in Merge -/
theorem eq19 (d1 d2 : Dg) (w : World) (r : Bool) (hr : (d1.fl == d2.fl) = r) :
    Calls Try.prog 19 #[.agg #[.int .i64 d1.line, .int .i64 d1.fl, .string d1.text, .bool d1.warn], .agg #[.int .i64 d2.line, .int .i64 d2.fl, .string d2.text, .bool d2.warn]] w fun e w' => e = .returned (.bool r) ∧ Below w.heap.size w w' := by
  go_enter Try.func19, Try.ntmps19
  go_wp2
  go_ret
  exact ⟨by subst hr; rfl, ((Below.refl _ _).alloc (Nat.le_refl _) _).alloc (by simp) _⟩
/-- two diagnostics that a test reads, of a slice that begins at o -/
def RInv (b o j m : Nat) (x y : Dg) (wr W : World) : Prop := DAt W b o j x ∧ DAt W b o m y ∧ Below wr.heap.size wr W ∧ b < wr.heap.size
def RCells (b o j m : Nat) (x y : Dg) (wr W : World) : Prop :=
  W.cell? ⟨b, o + j * 4, none⟩ = some (.int .i64 x.line) ∧ W.cell? ⟨b, o + j * 4 + 1, none⟩ = some (.int .i64 x.fl) ∧ W.cell? ⟨b, o + j * 4 + 2, none⟩ = some (.string x.text) ∧ W.cell? ⟨b, o + j * 4 + 3, none⟩ = some (.bool x.warn) ∧
  W.cell? ⟨b, o + m * 4, none⟩ = some (.int .i64 y.line) ∧ W.cell? ⟨b, o + m * 4 + 1, none⟩ = some (.int .i64 y.fl) ∧ W.cell? ⟨b, o + m * 4 + 2, none⟩ = some (.string y.text) ∧ W.cell? ⟨b, o + m * 4 + 3, none⟩ = some (.bool y.warn) ∧ RInv b o j m x y wr W
theorem RInv.cells {b o j m : Nat} {x y : Dg} {wr W : World} (h : RInv b o j m x y wr W) : RCells b o j m x y wr W := by
  have h' := h
  obtain ⟨⟨d1, d2, d3, d4⟩, ⟨e1, e2, e3, e4⟩, _⟩ := h
  exact ⟨d1, d2, d3, d4, e1, e2, e3, e4, h'⟩
theorem RInv.below {b o j m : Nat} {x y : Dg} {wr W W' : World} (h : RInv b o j m x y wr W) (hb : Below W.heap.size W W') : RInv b o j m x y wr W' := by
  obtain ⟨h1, h2, h3, h4⟩ := h
  have hl : b < W.heap.size := Nat.lt_of_lt_of_le h4 h3.size
  exact ⟨h1.below hb hl, h2.below hb hl, h3.trans (hb.mono h3.size), h4⟩
theorem RInv.drew {b o j m : Nat} {x y : Dg} {wr W : World} (h : RInv b o j m x y wr W) : RInv b o j m x y wr W.drew := h.below (Below.refl _ _).drew
theorem DAt.off {W : World} {b k r : Nat} {d : Dg} (h : DAt W b 0 (k + r) d) : DAt W b (k * 4) r d := by
  unfold DAt at *
  rwa [show 0 + (k + r) * 4 = k * 4 + r * 4 by omega] at h
theorem RInv.mk' {b n k j m : Nat} {F : Nat → Dg} {x y : Dg} {wr : World} (h : Mem wr b n F) (hj : k + j < n) (hm : k + m < n) (hx : F (k + j) = x) (hy : F (k + m) = y) : RInv b (k * 4) j m x y wr wr :=
  ⟨(hx ▸ h.dat (k + j) hj).off, (hy ▸ h.dat (k + m) hm).off, Below.refl _ _, h.lt (by omega)⟩
/-- 'clear' on a part of a block of diagnostics -/
theorem run_clear_blk (W : World) (ty b o n c : Nat) (hn : 0 < n) (hl : o + n * 4 ≤ (blkOf W b).length) :
    (Builtin.clear_ #[22] ty #[.slice (some ⟨b, o, none⟩) n c]).run Try.prog W = .ok (.tuple #[]) (put W b o (row (List.replicate n zD))) := by
  obtain ⟨i, hi, hz, hs, hby⟩ := info28
  have hlen : (row (List.replicate n zD)).length = n * 4 := by rw [len_row]; simp
  have ht := blk_there (W := W) (b := b) o (n * 4) (by omega) hl
  have hst := run_storeCells_cells (P := Try.prog) b o (row (List.replicate n zD)) 0 W (fun j hj => by simpa using (ht j (by omega)).1) (fun j hj => by simpa using (ht j (by omega)).2) (one_row _)
  simp only [Nat.add_zero] at hst
  have hzc : ∀ W, (zeroValue 28).run Try.prog W = .ok (.agg (c4 zD).toArray) W := fun W => by simp [zeroValue, typeInfo, hi, hz]
  have hc4 : (Value.agg (c4 zD).toArray).cells = (c4 zD).toArray := by kernel_rfl
  obtain ⟨m, rfl⟩ : ∃ m, n = m + 1 := ⟨n - 1, by omega⟩
  simp only [Builtin.clear_]
  simp [run_underlying Try.underlying22, hzc, hc4, zeros_row, hst, put]
/-- the compacted row, and what follows it as it was -/
def cpF (L : List Dg) (F : Nat → Dg) : Nat → Dg := fun k => if k < L.length then L.getD k zD else F k
theorem cpF_out {L : List Dg} {F : Nat → Dg} {k : Nat} (h : L.length ≤ k) : cpF L F k = F k := by unfold cpF; rw [if_neg (by omega)]
theorem Mem.cp {W : World} {b n p : Nat} {L : List Dg} {F : Nat → Dg} (h : Mem W b n (cpF L F)) (hq : L.length < n) (d : Dg) : Mem (Qxb6002619a.put W b (L.length * 4) (c4 d)) b n (cpF (L ++ [d]) F) := by
  refine (h.put L.length hq d).congr fun k hk => ?_
  unfold cpF
  by_cases e : k = L.length
  · subst e; simp [List.getD_eq_getElem?_getD]
  · rw [if_neg e]
    by_cases c : k < L.length
    · rw [if_pos c, if_pos (by simp; omega)]; simp [List.getD_eq_getElem?_getD, List.getElem?_append, c]
    · rw [if_neg c, if_neg (by simp; omega)]
theorem Mem.cp0 {W : World} {b n k : Nat} {F : Nat → Dg} (h : Mem W b n F) : Mem W b n (cpF ((List.range k).map F) F) := by
  refine h.congr fun i hi => ?_
  unfold cpF
  by_cases c : i < k
  · rw [if_pos (by simpa using c), getD_rangeMap F k i c]
  · rw [if_neg (by simpa using c)]
/-- what CompactFunc leaves -/
def CoPost (w : World) (b n : Nat) (F : Nat → Dg) (e : Ending) (w' : World) : Prop :=
  ∃ m, e = .returned (.slice (some ⟨b, 0, none⟩) m n) ∧ m = (fst1 F n).length ∧ (∀ i, i < m → DAt w' b 0 i ((fst1 F n).getD i zD)) ∧ Kept b w w'
theorem fst1_dup {F : Nat → Dg} {n i : Nat} (hs : Srt F 0 n) (h0 : 0 < i) (hi : i < n) (he : (F i).fl = (F (i - 1)).fl) : fst1 F (i + 1) = fst1 F i := by
  exact fst1_neg (by rw [fst1_sorted F n i hs h0 hi]; exact fun h => h he)
theorem fst1_nodup {F : Nat → Dg} {n i : Nat} (hs : Srt F 0 n) (h0 : 0 < i) (hi : i < n) (he : (F i).fl ≠ (F (i - 1)).fl) : fst1 F (i + 1) = fst1 F i ++ [F i] := by
  exact fst1_pos (by rw [fst1_sorted F n i hs h0 hi]; exact he)
theorem fst1_one (F : Nat → Dg) : fst1 F 1 = (List.range 1).map F := by simp [fst1, seg_zero, flt]
theorem rm_succ (F : Nat → Dg) (k : Nat) : (List.range k).map F ++ [F k] = (List.range (k + 1)).map F := by rw [List.range_succ, List.map_append]; rfl
/-- the inner loop: p diagnostics looked at -/
def CoI (w : World) (b n : Nat) (F : Nat → Dg) (p q : Nat) (wr : World) : Prop := q = (fst1 F p).length ∧ Mem wr b n (cpF (fst1 F p) F) ∧ Kept b w wr

set_option maxRecDepth 100000 in
set_option maxHeartbeats 3200000 in
theorem compact_any (b n : Nat) (F : Nat → Dg) (w : World) (hn : n ≤ 4096) (hn2 : 2 ≤ n) (hM : Hid (Mem w b n F)) (hS : Hid (Srt F 0 n)) :
    Calls Try.prog 20 #[.slice (some ⟨b, 0, none⟩) n n, .func (.func 19) #[] #[]] w fun e w' => CoPost w b n F e w' := by
  have hn' : (n : Int) ≤ 4096 := by omega
  have hn2' : (2 : Int) ≤ (n : Int) := by omega
  have hn0 : 0 < n := by omega
  go_enter Try.func20, Try.ntmps20
  go_wp2_with fail
  go_loopw [5] (fun i wr => ∃ k : Nat, 0 < k ∧ k ≤ n ∧ i = .int .i64 k ∧ Hid (fst1 F k = (List.range k).map F) ∧ Hid (Mem wr b n F ∧ Kept b w wr)) (fun i _ => n - (intOf i).toNat)
  case atStart => exact ⟨1, by omega, by omega, rfl, hide (fst1_one F), hide ⟨unhide hM, Kept.refl _ _⟩⟩
  case round =>
    clear hM
    obtain ⟨k, hk0, hk, rfl, HL, HM⟩ := hrel
    have k0' : (0 : Int) < (k : Int) := by omega
    have k' : (k : Int) ≤ 4096 := by omega
    by_cases hlt : k < n
    · have hlt' : (k : Int) < (n : Int) := by omega
      have y0 : IntKind.i64.wrap ((k : Int) - 1) = ((k - 1 : Nat) : Int) := by rw [IntKind.wrap_i64]; omega
      have y5 : (0 : Int) ≤ ((k - 1 : Nat) : Int) := by omega
      have y6 : ((k - 1 : Nat) : Int) < (n : Int) := by omega
      have y2 : k - 1 < n := by omega
      have HQ := hide (QInv.mk' (unhide HM).1 hlt y2)
      by_cases hc : (F k).fl = (F (k - 1)).fl
      · have C := hide (fun W => eq19 (F k) (F (k - 1)) W true (by simpa using hc))
        have HI : Hid (∀ W, Mem W b n F → Kept b w W → CoI w b n F (k + 1) k W) := hide (fun W h1 h2 => by
          have e := fst1_dup (unhide hS) hk0 hlt hc
          refine ⟨by rw [e, unhide HL]; simp, ?_, h2⟩
          rw [e, unhide HL]; exact h1.cp0)
        clear HL
        clear hc
        generalize F k = u at *
        generalize F (k - 1) = v at *
        generalize k - 1 = m at *
        go_wp2_with fail
        go_region_held3 (fun W => W.cell? ⟨b, k * 4, none⟩ = some (.int .i64 u.line) ∧ W.cell? ⟨b, k * 4 + 1, none⟩ = some (.int .i64 u.fl) ∧ W.cell? ⟨b, k * 4 + 2, none⟩ = some (.string u.text) ∧ W.cell? ⟨b, k * 4 + 3, none⟩ = some (.bool u.warn) ∧ W.cell? ⟨b, m * 4, none⟩ = some (.int .i64 v.line) ∧ W.cell? ⟨b, m * 4 + 1, none⟩ = some (.int .i64 v.fl) ∧ W.cell? ⟨b, m * 4 + 2, none⟩ = some (.string v.text) ∧ W.cell? ⟨b, m * 4 + 3, none⟩ = some (.bool v.warn) ∧ QInv b k m u v wr W)
          (first | exact (unhide HQ).cells | exact (unhide HQ).drew.cells | (go_split_ands; exact (QInv.below (by assumption) (by assumption)).cells))
          ((go_at_call 19; refine (unhide C _).mono ?_; rintro e w2 ⟨rfl, hB2⟩))
        go_split_ands
        rename_i hQ2
        clear hB2
        have HI2 := hide (unhide HI w2 ((unhide HM).1.below hn0 hQ2.2.2.1) ((unhide HM).2.trans (Kept.ofBelow hQ2.2.2.1)))
        clear HM HQ hQ2 HI C y0 y5 y6 y2
        go_wp2_with fail
        have hN : k + (n - k) = n := by omega
        generalize n - k = N at *
        have hN0 : 0 < N := by omega
        have hN4 : (N : Int) ≤ 4096 := by omega
        go_loopw [5, 7] (fun i j wr => ∃ q r : Nat, 0 < r ∧ r ≤ N ∧ q < k + r ∧ i = .int .i64 q ∧ j = .int .i64 r ∧ Hid (CoI w b n F (k + r) q wr)) (fun _ j _ => N - (intOf j).toNat)
        case atStart => exact ⟨k, 1, by omega, by omega, by omega, rfl, rfl, HI2⟩
        case round =>
          clear HI2
          obtain ⟨q, r, hr0, hrN, hq, rfl, rfl, HI⟩ := hrel
          have r0' : (0 : Int) < (r : Int) := by omega
          have r1' : (r : Int) ≤ 4096 := by omega
          have q1' : (q : Int) ≤ 8192 := by omega
          by_cases hrl : r < N
          · have hrl' : (r : Int) < (N : Int) := by omega
            have y0 : IntKind.i64.wrap ((r : Int) - 1) = ((r - 1 : Nat) : Int) := by rw [IntKind.wrap_i64]; omega
            have y5 : (0 : Int) ≤ ((r - 1 : Nat) : Int) := by omega
            have y6 : ((r - 1 : Nat) : Int) < (N : Int) := by omega
            have y2 : r - 1 < N := by omega
            have hql : q = (fst1 F (k + r)).length := (unhide HI).1
            have HQ : Hid (RInv b (k * 4) r (r - 1) (F (k + r)) (F (k + r - 1)) wr wr) := hide (RInv.mk' (unhide HI).2.1 (by omega) (by omega) (cpF_out (by omega)) (by rw [cpF_out (by omega)]; congr 1; omega))
            have Hql := hide hql
            clear hql
            by_cases hc : (F (k + r)).fl = (F (k + r - 1)).fl
            · have C := hide (fun W => eq19 (F (k + r)) (F (k + r - 1)) W true (by simpa using hc))
              have HN : Hid (∀ W, Below wr.heap.size wr W → CoI w b n F (k + (r + 1)) q W) := hide (fun W hB => by
                have e := fst1_dup (i := k + r) (unhide hS) (by omega) (by omega) hc
                refine ⟨?_, ?_, (unhide HI).2.2.trans (Kept.ofBelow hB)⟩
                · rw [← Nat.add_assoc, e]; exact unhide Hql
                · rw [← Nat.add_assoc, e]; exact (unhide HI).2.1.below hn0 hB)
              clear HI hc
              generalize F (k + r) = u at *
              generalize F (k + r - 1) = v at *
              generalize r - 1 = m at *
              go_wp2_with fail
              go_region_held3 (fun W => W.cell? ⟨b, k * 4 + r * 4, none⟩ = some (.int .i64 u.line) ∧ W.cell? ⟨b, k * 4 + r * 4 + 1, none⟩ = some (.int .i64 u.fl) ∧ W.cell? ⟨b, k * 4 + r * 4 + 2, none⟩ = some (.string u.text) ∧ W.cell? ⟨b, k * 4 + r * 4 + 3, none⟩ = some (.bool u.warn) ∧ W.cell? ⟨b, k * 4 + m * 4, none⟩ = some (.int .i64 v.line) ∧ W.cell? ⟨b, k * 4 + m * 4 + 1, none⟩ = some (.int .i64 v.fl) ∧ W.cell? ⟨b, k * 4 + m * 4 + 2, none⟩ = some (.string v.text) ∧ W.cell? ⟨b, k * 4 + m * 4 + 3, none⟩ = some (.bool v.warn) ∧ RInv b (k * 4) r m u v wr W)
                (first | exact (unhide HQ).cells | exact (unhide HQ).drew.cells | (go_split_ands; exact (RInv.below (by assumption) (by assumption)).cells))
                ((go_at_call 19; refine (unhide C _).mono ?_; rintro e w3 ⟨rfl, hB2⟩))
              go_split_ands
              rename_i hQ2
              clear hB2
              have HI3 := hide (unhide HN w3 hQ2.2.2.1)
              clear HQ hQ2 HN C
              go_wp2_with fail
              go_roundw
              case rel => exact ⟨q, r + 1, by omega, by omega, by omega, rfl, by go_num, HI3⟩
              case measure => simp [intOf]; omega
            · have C := hide (fun W => eq19 (F (k + r)) (F (k + r - 1)) W false (by simpa using hc))
              have HN : Hid (∀ W, Below wr.heap.size wr W → CoI w b n F (k + (r + 1)) (q + 1) (put W b (q * 4) (c4 (F (k + r))))) := hide (fun W hB => by
                have e := fst1_nodup (i := k + r) (unhide hS) (by omega) (by omega) hc
                refine ⟨?_, ?_, ((unhide HI).2.2.trans (Kept.ofBelow hB)).put _ _⟩
                · rw [← Nat.add_assoc, e]; simp; exact unhide Hql
                · rw [← Nat.add_assoc, e, unhide Hql]; exact Mem.cp (p := 0) ((unhide HI).2.1.below hn0 hB) (by have := unhide Hql; omega) _)
              have HF : Hid (∀ W, Below wr.heap.size wr W → (∃ x, DAt W b 0 q x) ∧ ∀ o, W.frozen? ⟨b, o, none⟩ = false) := hide (fun W hB => by
                have m2 := (unhide HI).2.1.below hn0 hB
                exact ⟨⟨_, m2.dat q (by omega)⟩, m2.frozen hn0⟩)
              clear HI hc
              have hqn : q < n := by omega
              have hqn' : (q : Int) < (n : Int) := by omega
              generalize F (k + r) = u at *
              generalize F (k + r - 1) = v at *
              generalize r - 1 = m at *
              go_wp2_with fail
              go_region_held3 (fun W => W.cell? ⟨b, k * 4 + r * 4, none⟩ = some (.int .i64 u.line) ∧ W.cell? ⟨b, k * 4 + r * 4 + 1, none⟩ = some (.int .i64 u.fl) ∧ W.cell? ⟨b, k * 4 + r * 4 + 2, none⟩ = some (.string u.text) ∧ W.cell? ⟨b, k * 4 + r * 4 + 3, none⟩ = some (.bool u.warn) ∧ W.cell? ⟨b, k * 4 + m * 4, none⟩ = some (.int .i64 v.line) ∧ W.cell? ⟨b, k * 4 + m * 4 + 1, none⟩ = some (.int .i64 v.fl) ∧ W.cell? ⟨b, k * 4 + m * 4 + 2, none⟩ = some (.string v.text) ∧ W.cell? ⟨b, k * 4 + m * 4 + 3, none⟩ = some (.bool v.warn) ∧ RInv b (k * 4) r m u v wr W)
                (first | exact (unhide HQ).cells | exact (unhide HQ).drew.cells | (go_split_ands; exact (RInv.below (by assumption) (by assumption)).cells))
                ((go_at_call 19; refine (unhide C _).mono ?_; rintro e w3 ⟨rfl, hB2⟩))
              go_split_ands
              rename_i hQ2
              clear hB2
              have HI3 := hide (unhide HN w3 hQ2.2.2.1)
              obtain ⟨⟨x, c1, c2, c3, c4'⟩, hf⟩ := unhide HF w3 hQ2.2.2.1
              simp only [Nat.zero_add] at c1 c2 c3 c4'
              have f0 := hf (q * 4)
              have f1 := hf (q * 4 + 1)
              have f2 := hf (q * 4 + 2)
              have f3 := hf (q * 4 + 3)
              clear HQ hQ2 HN C hf HF
              go_wp2_with fail
              go_roundw
              case rel => exact ⟨q + 1, r + 1, by omega, by omega, by omega, by go_num, by go_num, HI3⟩
              case measure => simp [intOf]; omega
          · have er : r = N := by omega
            subst er
            have hqn : q < n := by omega
            have hqn' : (q : Int) < (n : Int) := by omega
            have hI := unhide HI
            rw [hN] at hI
            have hlen : (blkOf wr b).length = n * 4 := by rw [hI.2.1, len_row]; simp
            have hcl : ∀ ty, (Builtin.clear_ #[22] ty #[.slice (some ⟨b, q * 4, none⟩) (n - q) (n - q)]).run Try.prog wr = .ok (.tuple #[]) (put wr b (q * 4) (row (List.replicate (n - q) zD))) := fun ty => run_clear_blk wr ty b (q * 4) (n - q) (n - q) (by omega) (by omega)
            have HE : Hid (CoPost w b n F (.returned (.slice (some ⟨b, 0, none⟩) q n)) (put wr b (q * 4) (row (List.replicate (n - q) zD)))) := hide (by
              refine ⟨q, rfl, hI.1, fun i hi => ?_, hI.2.2.put _ _⟩
              have hb : blkOf (put wr b (q * 4) (row (List.replicate (n - q) zD))) b = row (((List.range n).map (cpF (fst1 F n) F)).take q ++ List.replicate (n - q) zD ++ ((List.range n).map (cpF (fst1 F n) F)).drop (q + (List.replicate (n - q) zD).length)) := by
                rw [blk_put, if_pos rfl, hI.2.1, over_row _ _ q (by simp; omega)]
              have := DAt_row hb i (by simp; omega)
              have e : (((List.range n).map (cpF (fst1 F n) F)).take q ++ List.replicate (n - q) zD ++ ((List.range n).map (cpF (fst1 F n) F)).drop (q + (List.replicate (n - q) zD).length)).getD i zD = (fst1 F n).getD i zD := by
                rw [List.getD_eq_getElem?_getD, List.append_assoc, List.getElem?_append_left (by simp; omega), List.getElem?_take, if_pos hi, ← List.getD_eq_getElem?_getD, getD_rangeMap _ n i (by omega)]
                unfold cpF; rw [if_pos (by have := hI.1; omega)]
              rwa [e] at this)
            clear hI hlen HI
            go_wp2_with fail
            go_ret
            exact unhide HE
      · have C := hide (fun W => eq19 (F k) (F (k - 1)) W false (by simpa using hc))
        have HL2 : Hid (fst1 F (k + 1) = (List.range (k + 1)).map F) := hide (by rw [fst1_nodup (unhide hS) hk0 hlt hc, unhide HL, rm_succ])
        clear HL
        clear hc
        generalize F k = u at *
        generalize F (k - 1) = v at *
        generalize k - 1 = m at *
        go_wp2_with fail
        go_region_held3 (fun W => W.cell? ⟨b, k * 4, none⟩ = some (.int .i64 u.line) ∧ W.cell? ⟨b, k * 4 + 1, none⟩ = some (.int .i64 u.fl) ∧ W.cell? ⟨b, k * 4 + 2, none⟩ = some (.string u.text) ∧ W.cell? ⟨b, k * 4 + 3, none⟩ = some (.bool u.warn) ∧ W.cell? ⟨b, m * 4, none⟩ = some (.int .i64 v.line) ∧ W.cell? ⟨b, m * 4 + 1, none⟩ = some (.int .i64 v.fl) ∧ W.cell? ⟨b, m * 4 + 2, none⟩ = some (.string v.text) ∧ W.cell? ⟨b, m * 4 + 3, none⟩ = some (.bool v.warn) ∧ QInv b k m u v wr W)
          (first | exact (unhide HQ).cells | exact (unhide HQ).drew.cells | (go_split_ands; exact (QInv.below (by assumption) (by assumption)).cells))
          ((go_at_call 19; refine (unhide C _).mono ?_; rintro e w2 ⟨rfl, hB2⟩))
        go_split_ands
        rename_i hQ2
        clear hB2
        have HM2 : Hid (Mem w2 b n F ∧ Kept b w w2) := hide ⟨(unhide HM).1.below hn0 hQ2.2.2.1, (unhide HM).2.trans (Kept.ofBelow hQ2.2.2.1)⟩
        clear HM HQ hQ2
        go_wp2_with fail
        go_roundw
        case rel => exact ⟨k + 1, by omega, by omega, by go_num, HL2, HM2⟩
        case measure => simp [intOf]; omega
    · have ek : k = n := by omega
      subst ek
      go_wp2_with fail
      go_ret
      refine ⟨k, rfl, by rw [unhide HL]; simp, fun i hi => ?_, (unhide HM).2⟩
      rw [unhide HL, getD_rangeMap F k i hi]
      exact (unhide HM).1.dat i hi
end Go.Proofs.Qxb6002619a
