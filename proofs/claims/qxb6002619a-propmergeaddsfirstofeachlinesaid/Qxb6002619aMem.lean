/- a row of diagnostics as a function of the index; swaps of two of them -/
import Derived.Test.Qxb6002619aSwap
namespace Go.Proofs.Qxb6002619a
open Go.ChangeShapes Go.WideShapes Go.ChangeAt Go.RowKit
set_option linter.unusedVariables false
set_option linter.unusedSimpArgs false

def Mem (W : World) (b n : Nat) (F : Nat → Dg) : Prop := blkOf W b = row ((List.range n).map F)
theorem Mem.congr {W : World} {b n : Nat} {F F' : Nat → Dg} (h : Mem W b n F) (he : ∀ k, k < n → F k = F' k) : Mem W b n F' := by
  unfold Mem at h ⊢
  rw [h]; congr 1
  exact List.map_congr_left fun k hk => he k (by simpa using hk)
theorem getD_rangeMap (F : Nat → Dg) (n k : Nat) (hk : k < n) : ((List.range n).map F).getD k zD = F k := by
  rw [List.getD_eq_getElem?_getD, List.getElem?_eq_getElem (by simpa using hk)]; simp
theorem Mem.dat {W : World} {b n : Nat} {F : Nat → Dg} (h : Mem W b n F) (k : Nat) (hk : k < n) : DAt W b 0 k (F k) := by
  have := DAt_row h k (by simpa using hk)
  rwa [getD_rangeMap F n k hk] at this
theorem Mem.frozen {W : World} {b n : Nat} {F : Nat → Dg} (h : Mem W b n F) (hn : 0 < n) (o : Nat) : W.frozen? ⟨b, o, none⟩ = false := blk_frozen (by rw [h, len_row]; simp; omega)
theorem Mem.lt {W : World} {b n : Nat} {F : Nat → Dg} (h : Mem W b n F) (hn : 0 < n) : b < W.heap.size := blk_lt (o := 0) (by rw [h, len_row]; simp; omega)
theorem Mem.below {W W' : World} {b n : Nat} {F : Nat → Dg} (h : Mem W b n F) (hn : 0 < n) (hb : Below W.heap.size W W') : Mem W' b n F := by
  unfold Mem; rw [blk_below hb (h.lt hn)]; exact h
theorem Mem.drewN {W : World} {b n : Nat} {F : Nat → Dg} (h : Mem W b n F) (q : Nat) : Mem (W.drewN q) b n F := h
theorem set_rangeMap (F : Nat → Dg) (n p : Nat) (d : Dg) : ((List.range n).map F).set p d = (List.range n).map fun k => if k = p then d else F k := by
  apply List.ext_getElem
  · simp
  · intro i h1 h2
    rw [List.getElem_set]
    simp only [List.getElem_map, List.getElem_range]
    by_cases e : p = i
    · subst e; simp
    · rw [if_neg e, if_neg (Ne.symm e)]
theorem Mem.put {W : World} {b n : Nat} {F : Nat → Dg} (h : Mem W b n F) (p : Nat) (hp : p < n) (d : Dg) : Mem (put W b (p * 4) (c4 d)) b n fun k => if k = p then d else F k := by
  unfold Mem at h ⊢
  rw [blk_put, if_pos rfl, h, over_set _ _ _ (by simpa using hp), set_rangeMap]
def swp (F : Nat → Dg) (p q : Nat) : Nat → Dg := fun k => if k = p then F q else if k = q then F p else F k
/-- the world behind 'data[p], data[q] = data[q], data[p]' -/
def swW (W : World) (b p q : Nat) (x y : Dg) : World :=
  (((((((W.setCell ⟨b, p * 4, none⟩ (.int .i64 y.line)).setCell ⟨b, p * 4 + 1, none⟩ (.int .i64 y.fl)).setCell ⟨b, p * 4 + 2, none⟩ (.string y.text)).setCell ⟨b, p * 4 + 3, none⟩ (.bool y.warn)).setCell
    ⟨b, q * 4, none⟩ (.int .i64 x.line)).setCell ⟨b, q * 4 + 1, none⟩ (.int .i64 x.fl)).setCell ⟨b, q * 4 + 2, none⟩ (.string x.text)).setCell ⟨b, q * 4 + 3, none⟩ (.bool x.warn)
theorem swW_put (W : World) (b p q : Nat) (x y : Dg) : swW W b p q x y = Qxb6002619a.put (Qxb6002619a.put W b (p * 4) (c4 y)) b (q * 4) (c4 x) := rfl
theorem Mem.swap {W : World} {b n : Nat} {F : Nat → Dg} (h : Mem W b n F) (p q : Nat) (hp : p < n) (hq : q < n) (hpq : p ≠ q) : Mem (swW W b p q (F p) (F q)) b n (swp F p q) := by
  rw [swW_put]
  refine ((h.put p hp (F q)).put q hq (F p)).congr fun k hk => ?_
  unfold swp
  by_cases e1 : k = p
  · subst e1; simp [hpq]
  · simp [e1]
theorem Kept.swW {b : Nat} {w W : World} (h : Kept b w W) (p q : Nat) (x y : Dg) : Kept b w (swW W b p q x y) := by
  rw [swW_put]; exact (h.put _ _).put _ _

/-- what a sorting function leaves: the row, nothing else -/
def SPost (w : World) (b n : Nat) (F' : Nat → Dg) (e : Ending) (w' : World) : Prop := e = .returned (.tuple #[]) ∧ Mem w' b n F' ∧ Kept b w w'
def swR (F : Nat → Dg) (x y m : Nat) : Nat → Dg := fun k => if x ≤ k ∧ k < x + m then F (k - x + y) else if y ≤ k ∧ k < y + m then F (k - y + x) else F k
theorem swR_zero (F : Nat → Dg) (x y : Nat) : swR F x y 0 = F := by
  funext k; unfold swR; rw [if_neg (by omega), if_neg (by omega)]
theorem swR_succ (F : Nat → Dg) (x y i : Nat) (h : x + i < y) : swp (swR F x y i) (x + i) (y + i) = swR F x y (i + 1) := by
  funext k
  unfold swp swR
  by_cases e1 : k = x + i
  · subst e1
    rw [if_pos rfl, if_neg (by omega), if_neg (by omega), if_pos (by omega)]
    congr 1; omega
  · rw [if_neg e1]
    by_cases e2 : k = y + i
    · subst e2
      rw [if_pos rfl, if_neg (by omega), if_neg (by omega), if_neg (by omega), if_pos (by omega)]
      congr 1; omega
    · rw [if_neg e2]
      by_cases e3 : x ≤ k ∧ k < x + i
      · rw [if_pos e3, if_pos (show x ≤ k ∧ k < x + (i + 1) by omega)]
      · rw [if_neg e3, if_neg (show ¬ (x ≤ k ∧ k < x + (i + 1)) by omega)]
        by_cases e4 : y ≤ k ∧ k < y + i
        · rw [if_pos e4, if_pos (show y ≤ k ∧ k < y + (i + 1) by omega)]
        · rw [if_neg e4, if_neg (show ¬ (y ≤ k ∧ k < y + (i + 1)) by omega)]
theorem Mem.drew {W : World} {b n : Nat} {F : Nat → Dg} (h : Mem W b n F) : Mem W.drew b n F := h
def rot (F : Nat → Dg) (a m b : Nat) : Nat → Dg := fun k => if a ≤ k ∧ k < b then (if k < a + (b - m) then F (k - a + m) else F (k - (b - m))) else F k
theorem rot_lt (F : Nat → Dg) (i j m : Nat) (h : j < i) (hm : i ≤ m) : rot (swR F (m - i) m j) (m - (i - j)) m (m + j) = rot F (m - i) m (m + j) := by
  funext k
  unfold rot swR
  by_cases c1 : m - (i - j) ≤ k ∧ k < m + j
  · rw [if_pos c1, if_pos (show m - i ≤ k ∧ k < m + j by omega)]
    by_cases c2 : k < m - (i - j) + (m + j - m)
    · rw [if_pos c2, if_neg (show ¬ (m - i ≤ k - (m - (i - j)) + m ∧ k - (m - (i - j)) + m < m - i + j) by omega), if_pos (show m ≤ k - (m - (i - j)) + m ∧ k - (m - (i - j)) + m < m + j by omega), if_neg (show ¬ k < m - i + (m + j - m) by omega)]
      congr 1; omega
    · rw [if_neg c2, if_neg (show ¬ (m - i ≤ k - (m + j - m) ∧ k - (m + j - m) < m - i + j) by omega), if_neg (show ¬ (m ≤ k - (m + j - m) ∧ k - (m + j - m) < m + j) by omega), if_neg (show ¬ k < m - i + (m + j - m) by omega)]
  · rw [if_neg c1]
    by_cases c3 : m - i ≤ k ∧ k < m - i + j
    · rw [if_pos c3, if_pos (show m - i ≤ k ∧ k < m + j by omega), if_pos (show k < m - i + (m + j - m) by omega)]
    · rw [if_neg c3, if_neg (show ¬ (m ≤ k ∧ k < m + j) by omega), if_neg (show ¬ (m - i ≤ k ∧ k < m + j) by omega)]
theorem rot_gt (F : Nat → Dg) (i j m : Nat) (h : i < j) (hm : i ≤ m) : rot (swR F (m - i) (m + j - i) i) (m - i) m (m + (j - i)) = rot F (m - i) m (m + j) := by
  funext k
  unfold rot swR
  by_cases c1 : m - i ≤ k ∧ k < m + (j - i)
  · rw [if_pos c1, if_pos (show m - i ≤ k ∧ k < m + j by omega)]
    by_cases c2 : k < m - i + (m + (j - i) - m)
    · rw [if_pos c2, if_neg (show ¬ (m - i ≤ k - (m - i) + m ∧ k - (m - i) + m < m - i + i) by omega), if_neg (show ¬ (m + j - i ≤ k - (m - i) + m ∧ k - (m - i) + m < m + j - i + i) by omega), if_pos (show k < m - i + (m + j - m) by omega)]
    · rw [if_neg c2, if_pos (show m - i ≤ k - (m + (j - i) - m) ∧ k - (m + (j - i) - m) < m - i + i by omega), if_pos (show k < m - i + (m + j - m) by omega)]
      congr 1; omega
  · rw [if_neg c1]
    by_cases c3 : m + j - i ≤ k ∧ k < m + j - i + i
    · rw [if_neg (show ¬ (m - i ≤ k ∧ k < m - i + i) by omega), if_pos c3, if_pos (show m - i ≤ k ∧ k < m + j by omega), if_neg (show ¬ k < m - i + (m + j - m) by omega)]
      congr 1; omega
    · rw [if_neg (show ¬ (m - i ≤ k ∧ k < m - i + i) by omega), if_neg c3, if_neg (show ¬ (m - i ≤ k ∧ k < m + j) by omega)]
theorem rot_eq (F : Nat → Dg) (i m : Nat) (hm : i ≤ m) : swR F (m - i) m i = rot F (m - i) m (m + i) := by
  funext k
  unfold rot swR
  by_cases c1 : m - i ≤ k ∧ k < m - i + i
  · rw [if_pos c1, if_pos (show m - i ≤ k ∧ k < m + i by omega), if_pos (show k < m - i + (m + i - m) by omega)]
  · rw [if_neg c1]
    by_cases c2 : m ≤ k ∧ k < m + i
    · rw [if_pos c2, if_pos (show m - i ≤ k ∧ k < m + i by omega), if_neg (show ¬ k < m - i + (m + i - m) by omega)]
      congr 1; omega
    · rw [if_neg c2, if_neg (show ¬ (m - i ≤ k ∧ k < m + i) by omega)]

set_option maxRecDepth 100000 in
set_option maxHeartbeats 3200000 in
theorem swapRange_any (b n c x y m : Nat) (F : Nat → Dg) (cf : Value) (w : World) (hn : n ≤ 4096) (hM : Hid (Mem w b n F)) (hxy : x + m ≤ y) (hy : y + m ≤ n) :
    Calls Try.prog 29 #[.slice (some ⟨b, 0, none⟩) n c, .int .i64 (x : Int), .int .i64 (y : Int), .int .i64 (m : Int), cf] w fun e w' => SPost w b n (swR F x y m) e w' := by
  have hn' : (n : Int) ≤ 4096 := by omega
  have hm' : (m : Int) ≤ 4096 := by omega
  go_enter Try.func29, Try.ntmps29
  go_wp2_with fail
  go_loopw [10] (fun i wr => ∃ k : Nat, k ≤ m ∧ i = .int .i64 k ∧ Hid (Mem wr b n (swR F x y k)) ∧ Hid (Kept b w wr)) (fun i _ => m - (intOf i).toNat)
  case atStart => exact ⟨0, Nat.zero_le _, rfl, by rw [swR_zero]; exact hM, hide (Kept.refl _ _)⟩
  case round =>
    obtain ⟨k, hk, rfl, HM, HK⟩ := hrel
    by_cases hlt : k < m
    · have hlt' : (k : Int) < (m : Int) := by omega
      obtain ⟨d1, d2, d3, d4⟩ := (unhide HM).dat (x + k) (by omega)
      obtain ⟨e1, e2, e3, e4⟩ := (unhide HM).dat (y + k) (by omega)
      simp only [Nat.zero_add] at d1 d2 d3 d4 e1 e2 e3 e4
      have hf := (unhide HM).frozen (by omega)
      have HS : Hid (Mem (swW wr b (x + k) (y + k) (swR F x y k (x + k)) (swR F x y k (y + k))) b n (swR F x y (k + 1))) := hide (by
        rw [← swR_succ F x y k (by omega)]
        exact (unhide HM).swap (x + k) (y + k) (by omega) (by omega) (by omega))
      have y1 : (x : Int) + (k : Int) = ((x + k : Nat) : Int) := by omega
      have y2 : (y : Int) + (k : Int) = ((y + k : Nat) : Int) := by omega
      have y3 : x + k < n := by omega
      have y4 : y + k < n := by omega
      have Hpq : Hid (x + k < y + k) := hide (by omega)
      clear HM
      generalize swR F x y k (x + k) = u at *
      generalize swR F x y k (y + k) = v at *
      generalize x + k = p at *
      generalize y + k = q at *
      have g0 := hf (p * 4)
      have g1 := hf (p * 4 + 1)
      have g2 := hf (p * 4 + 2)
      have g3 := hf (p * 4 + 3)
      have g4 := hf (q * 4)
      have g5 := hf (q * 4 + 1)
      have g6 := hf (q * 4 + 2)
      have g7 := hf (q * 4 + 3)
      clear hf
      have hpq1 : ¬ p = q := by have := unhide Hpq; omega
      have hpq2 : ¬ q = p := by have := unhide Hpq; omega
      have z0 : ¬ p * 4 = q * 4 := by have := unhide Hpq; omega
      have z1 : ¬ q * 4 = p * 4 := by have := unhide Hpq; omega
      have z2 : ¬ p * 4 = q * 4 + 1 := by have := unhide Hpq; omega
      have z3 : ¬ q * 4 + 1 = p * 4 := by have := unhide Hpq; omega
      have z4 : ¬ p * 4 = q * 4 + 2 := by have := unhide Hpq; omega
      have z5 : ¬ q * 4 + 2 = p * 4 := by have := unhide Hpq; omega
      have z6 : ¬ p * 4 = q * 4 + 3 := by have := unhide Hpq; omega
      have z7 : ¬ q * 4 + 3 = p * 4 := by have := unhide Hpq; omega
      have z8 : ¬ p * 4 + 1 = q * 4 := by have := unhide Hpq; omega
      have z9 : ¬ q * 4 = p * 4 + 1 := by have := unhide Hpq; omega
      have z10 : ¬ p * 4 + 1 = q * 4 + 1 := by have := unhide Hpq; omega
      have z11 : ¬ q * 4 + 1 = p * 4 + 1 := by have := unhide Hpq; omega
      have z12 : ¬ p * 4 + 1 = q * 4 + 2 := by have := unhide Hpq; omega
      have z13 : ¬ q * 4 + 2 = p * 4 + 1 := by have := unhide Hpq; omega
      have z14 : ¬ p * 4 + 1 = q * 4 + 3 := by have := unhide Hpq; omega
      have z15 : ¬ q * 4 + 3 = p * 4 + 1 := by have := unhide Hpq; omega
      have z16 : ¬ p * 4 + 2 = q * 4 := by have := unhide Hpq; omega
      have z17 : ¬ q * 4 = p * 4 + 2 := by have := unhide Hpq; omega
      have z18 : ¬ p * 4 + 2 = q * 4 + 1 := by have := unhide Hpq; omega
      have z19 : ¬ q * 4 + 1 = p * 4 + 2 := by have := unhide Hpq; omega
      have z20 : ¬ p * 4 + 2 = q * 4 + 2 := by have := unhide Hpq; omega
      have z21 : ¬ q * 4 + 2 = p * 4 + 2 := by have := unhide Hpq; omega
      have z22 : ¬ p * 4 + 2 = q * 4 + 3 := by have := unhide Hpq; omega
      have z23 : ¬ q * 4 + 3 = p * 4 + 2 := by have := unhide Hpq; omega
      have z24 : ¬ p * 4 + 3 = q * 4 := by have := unhide Hpq; omega
      have z25 : ¬ q * 4 = p * 4 + 3 := by have := unhide Hpq; omega
      have z26 : ¬ p * 4 + 3 = q * 4 + 1 := by have := unhide Hpq; omega
      have z27 : ¬ q * 4 + 1 = p * 4 + 3 := by have := unhide Hpq; omega
      have z28 : ¬ p * 4 + 3 = q * 4 + 2 := by have := unhide Hpq; omega
      have z29 : ¬ q * 4 + 2 = p * 4 + 3 := by have := unhide Hpq; omega
      have z30 : ¬ p * 4 + 3 = q * 4 + 3 := by have := unhide Hpq; omega
      have z31 : ¬ q * 4 + 3 = p * 4 + 3 := by have := unhide Hpq; omega
      go_wp2_with fail
      go_region
      go_wp2_with fail
      go_roundw
      case rel => exact ⟨k + 1, by omega, by go_num, hide (Mem.drew (unhide HS)), hide ((unhide HK).swW p q u v).drew⟩
      case measure => simp [intOf]; omega
    · go_wp2_with fail
      first | go_end0 | refine bodyPost_ret (results_none rfl _ _ _) rfl ?_
      exact ⟨rfl, by have e : k = m := by omega
                     subst e; exact unhide HM, unhide HK⟩

set_option maxRecDepth 100000 in
set_option maxHeartbeats 3200000 in
theorem rotate_any (b n c x m y : Nat) (F : Nat → Dg) (cf : Value) (w : World) (hn : n ≤ 4096) (hM : Hid (Mem w b n F)) (hxm : x < m) (hmy : m < y) (hy : y ≤ n) :
    Calls Try.prog 28 #[.slice (some ⟨b, 0, none⟩) n c, .int .i64 (x : Int), .int .i64 (m : Int), .int .i64 (y : Int), cf] w fun e w' => SPost w b n (rot F x m y) e w' := by
  have hn' : (n : Int) ≤ 4096 := by omega
  have hm' : (m : Int) ≤ 4096 := by omega
  have hy' : (y : Int) ≤ 4096 := by omega
  have i0 : (m : Int) - (x : Int) = ((m - x : Nat) : Int) := by omega
  have j0 : (y : Int) - (m : Int) = ((y - m : Nat) : Int) := by omega
  go_enter Try.func28, Try.ntmps28
  go_wp2_with fail
  go_loopw [10, 11] (fun i j wr => ∃ (p q : Nat) (F1 : Nat → Dg), 0 < p ∧ 0 < q ∧ p ≤ m ∧ m + q ≤ n ∧ i = .int .i64 p ∧ j = .int .i64 q ∧ Hid (Mem wr b n F1) ∧ Hid (rot F1 (m - p) m (m + q) = rot F x m y) ∧ Hid (Kept b w wr)) (fun i j _ => (intOf i).toNat + (intOf j).toNat)
  case atStart => exact ⟨m - x, y - m, F, by omega, by omega, by omega, by omega, rfl, rfl, hM, hide (by rw [show m - (m - x) = x by omega, show m + (y - m) = y by omega]), hide (Kept.refl _ _)⟩
  case round =>
    clear i0 j0 hM
    obtain ⟨p, q, F1, hp, hq, hpm, hqn, rfl, rfl, HM, HR, HK⟩ := hrel
    have p' : (p : Int) ≤ 4096 := by omega
    have q' : (q : Int) ≤ 4096 := by omega
    have e1 : (m : Int) - (p : Int) = ((m - p : Nat) : Int) := by omega
    by_cases h1 : p = q
    · subst h1
      have C := hide (swapRange_any b n c (m - p) m p F1 cf wr hn HM (by omega) (by omega))
      go_wp2_with fail
      refine (unhide C).mono ?_
      rintro e w1 ⟨rfl, M1, K1⟩
      go_wp2_with fail
      first | go_end0 | refine bodyPost_ret (results_none rfl _ _ _) rfl ?_
      exact ⟨rfl, by rw [← unhide HR, ← rot_eq F1 p m hpm]; exact M1, (unhide HK).trans K1⟩
    · have h1' : ¬ (p : Int) = (q : Int) := by omega
      by_cases h2 : q < p
      · have h2' : (q : Int) < (p : Int) := by omega
        have e2 : (p : Int) - (q : Int) = ((p - q : Nat) : Int) := by omega
        have C := hide (swapRange_any b n c (m - p) m q F1 cf wr hn HM (by omega) (by omega))
        have HR1 : Hid (rot (swR F1 (m - p) m q) (m - (p - q)) m (m + q) = rot F x m y) := hide (by rw [rot_lt F1 p q m h2 hpm]; exact unhide HR)
        go_wp2_with fail
        refine (unhide C).mono ?_
        rintro e w1 ⟨rfl, M1, K1⟩
        have HM1 := hide M1
        have HK1 := hide ((unhide HK).trans K1)
        clear M1 K1
        go_wp2_with fail
        go_roundw
        case rel => exact ⟨p - q, q, _, by omega, hq, by omega, hqn, rfl, rfl, HM1, HR1, HK1⟩
        case measure => simp [intOf]; omega
      · have h2' : (p : Int) < (q : Int) := by omega
        have e2 : (q : Int) - (p : Int) = ((q - p : Nat) : Int) := by omega
        have e3 : (m : Int) + (q : Int) - (p : Int) = ((m + q - p : Nat) : Int) := by omega
        have C := hide (swapRange_any b n c (m - p) (m + q - p) p F1 cf wr hn HM (by omega) (by omega))
        have HR1 : Hid (rot (swR F1 (m - p) (m + q - p) p) (m - p) m (m + (q - p)) = rot F x m y) := hide (by rw [rot_gt F1 p q m (by omega) hpm]; exact unhide HR)
        go_wp2_with fail
        refine (unhide C).mono ?_
        rintro e w1 ⟨rfl, M1, K1⟩
        have HM1 := hide M1
        have HK1 := hide ((unhide HK).trans K1)
        clear M1 K1
        go_wp2_with fail
        go_roundw
        case rel => exact ⟨p, q - p, _, hp, by omega, hpm, by omega, rfl, rfl, HM1, HR1, HK1⟩
        case measure => simp [intOf]; omega
end Go.Proofs.Qxb6002619a
