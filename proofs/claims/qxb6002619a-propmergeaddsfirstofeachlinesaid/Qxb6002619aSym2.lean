/- slices.symMergeCmpFunc: one element on the right -/
import Derived.Test.Qxb6002619aInsert
namespace Go.Proofs.Qxb6002619a
open Go.ChangeShapes Go.WideShapes Go.ChangeAt Go.RowKit
set_option linter.unusedVariables false
set_option linter.unusedSimpArgs false

theorem rot_down (F : Nat → Dg) (k m : Nat) (h0 : 0 < k) (h : k ≤ m) : swp (rot F k m (m + 1)) k (k - 1) = rot F (k - 1) m (m + 1) := by
  funext i
  unfold swp rot
  by_cases e1 : i = k
  · subst e1
    rw [if_pos rfl, if_neg (by omega), if_pos (by omega), if_neg (by omega)]; congr 1; omega
  · rw [if_neg e1]
    by_cases e2 : i = k - 1
    · subst e2
      rw [if_pos rfl, if_pos (by omega), if_pos (by omega), if_pos (by omega), if_pos (by omega)]; congr 1; omega
    · rw [if_neg e2]
      by_cases e3 : k ≤ i ∧ i < m + 1
      · rw [if_pos e3, if_pos (show k - 1 ≤ i ∧ i < m + 1 by omega), if_neg (show ¬ i < k + (m + 1 - m) by omega), if_neg (show ¬ i < k - 1 + (m + 1 - m) by omega)]
      · rw [if_neg e3, if_neg (show ¬ (k - 1 ≤ i ∧ i < m + 1) by omega)]
theorem rot_top (F : Nat → Dg) (m : Nat) : rot F m m (m + 1) = F := by
  funext i
  unfold rot
  by_cases e3 : m ≤ i ∧ i < m + 1
  · rw [if_pos e3, if_pos (by omega)]; congr 1; omega
  · rw [if_neg e3]
/-- data[m] inserted at place p of a sorted left side -/
theorem srt_right (n : Nat) (F : Nat → Dg) (x p m : Nat) (hp1 : x ≤ p) (hp2 : p ≤ m) (hs : Srt F x m) (h1 : ∀ k, x ≤ k → k < p → (F k).fl ≤ (F m).fl) (h2 : ∀ k, p ≤ k → k < m → (F m).fl < (F k).fl) (hy : m < n) :
    Mix n F (rot F p m (m + 1)) x (m + 1) ∧ Srt (rot F p m (m + 1)) x (m + 1) := by
  constructor
  · refine (mix_rot n F p m (m + 1) hp2 (by omega) (by omega) fun i j i1 i2 j1 j2 => ?_).mono hp1 (Nat.le_refl _)
    rw [show j = m by omega]
    have := h2 i i1 i2; omega
  · have e1 : ∀ k, k < p → rot F p m (m + 1) k = F k := fun k k2 => by unfold rot; rw [if_neg (by omega)]
    have e2 : rot F p m (m + 1) p = F m := by unfold rot; rw [if_pos (by omega), if_pos (by omega)]; congr 1; omega
    have e3 : ∀ k, p < k → k < m + 1 → rot F p m (m + 1) k = F (k - 1) := fun k k1 k2 => by unfold rot; rw [if_pos (by omega), if_neg (by omega)]; congr 1; omega
    intro i j i1 i2 i3
    by_cases c1 : j < p
    · rw [e1 i (by omega), e1 j c1]; exact hs _ _ (by omega) (by omega) (by omega)
    · by_cases c2 : j = p
      · subst c2
        rw [e2, e1 i i2]; exact h1 _ i1 i2
      · rw [e3 j (by omega) i3]
        by_cases c3 : i < p
        · rw [e1 i c3]; exact hs _ _ (by omega) (by omega) (by omega)
        · by_cases c4 : i = p
          · subst c4; rw [e2]; exact Int.le_of_lt (h2 _ (by omega) (by omega))
          · rw [e3 i (by omega) (by omega)]; exact hs _ _ (by omega) (by omega) (by omega)

set_option maxRecDepth 100000 in
set_option maxHeartbeats 3200000 in
theorem sym_last (b n c x m y : Nat) (F : Nat → Dg) (w : World) (hn : n ≤ 4096) (hM : Hid (Mem w b n F)) (hxm : x + 1 < m) (hmy : y = m + 1) (hy : y ≤ n) (hP : Hid (PosD n F)) (hs : Hid (Srt F x m)) :
    Calls Try.prog 26 #[.slice (some ⟨b, 0, none⟩) n c, .int .i64 (x : Int), .int .i64 (m : Int), .int .i64 (y : Int), .func (.func 18) #[] #[]] w fun e w' => IsPost w b n x y F e w' := by
  have hn' : (n : Int) ≤ 4096 := by omega
  have hn0 : 0 < n := by omega
  have hy' : (y : Int) ≤ 4096 := by omega
  have hx' : (x : Int) ≤ 4096 := by omega
  have hm' : (m : Int) ≤ 4096 := by omega
  have hmx : ¬ (m : Int) - (x : Int) = 1 := by omega
  have hymm : (y : Int) - (m : Int) = 1 := by omega
  have hmxb : ((m : Int) - (x : Int) == 1) = false := by simpa using hmx
  have hmn : m < n := by omega
  have hmn' : (m : Int) < (n : Int) := by omega
  have Hy := hide hmy
  clear hmy
  go_enter Try.func26, Try.ntmps26
  go_wp2_with fail
  go_loopw [14, 15] (fun i j wr => ∃ p q : Nat, x ≤ p ∧ p ≤ q ∧ q ≤ m ∧ i = .int .i64 p ∧ j = .int .i64 q ∧ Hid (∀ k, x ≤ k → k < p → (F k).fl ≤ (F m).fl) ∧ Hid (∀ k, q ≤ k → k < m → (F m).fl < (F k).fl) ∧ Hid (Mem wr b n F ∧ Kept b w wr)) (fun i j _ => (intOf j).toNat - (intOf i).toNat)
  case atStart => exact ⟨x, m, Nat.le_refl _, by omega, Nat.le_refl _, rfl, rfl, hide (fun k h1 h2 => by omega), hide (fun k h1 h2 => by omega), hide ⟨unhide hM, Kept.refl _ _⟩⟩
  case round =>
    clear hM
    obtain ⟨p, q, hmp, hpq, hqy, rfl, rfl, H1, H2, HM⟩ := hrel
    have p' : (p : Int) ≤ 4096 := by omega
    by_cases hlt : p < q
    · have hlt' : (p : Int) < (q : Int) := by omega
      have b0 : (0 : Int) ≤ (p : Int) + (q : Int) := by omega
      have b1 : (p : Int) + (q : Int) ≤ 131072 := by omega
      have e1 : ((p : Int) + (q : Int)) / 2 = (((p + q) / 2 : Nat) : Int) := by omega
      have m1 : p ≤ (p + q) / 2 := by omega
      have m2 : (p + q) / 2 < q := by omega
      generalize hhh : (p + q) / 2 = h at *
      clear hhh
      have h4 : h < n := by omega
      have h5 : (0 : Int) ≤ (h : Int) := by omega
      have h6 : (h : Int) < (n : Int) := by omega
      have h7 : (h : Int) ≤ 4096 := by omega
      have HQ := hide (QInv.mk' (unhide HM).1 hmn h4)
      have hp := unhide hP
      have C := hide (fun W => cmp18 (F m) (F h) W (hp m hmn).1 (hp m hmn).2 (hp h h4).1 (hp h h4).2)
      have p1 := (hp h h4).1
      have p2 := (hp h h4).2
      have p3 := (hp m hmn).1
      have p4 := (hp m hmn).2
      clear hp
      by_cases hc : (F m).fl < (F h).fl
      · have H2' : Hid (∀ k, h ≤ k → k < m → (F m).fl < (F k).fl) := hide (fun k k1 k2 => by
          by_cases e : k = h
          · subst e; exact hc
          · have := unhide hs h k (by omega) (by omega) k2; omega)
        clear H2
        generalize F h = v at *
        generalize hx : F m = u at *
        clear hx
        have hc' : u.fl - v.fl < 0 := by omega
        have hdec : decide (u.fl - v.fl < 0) = true := by simp; omega
        go_wp2_with fail
        go_region_held3 (fun W => W.cell? ⟨b, m * 4, none⟩ = some (.int .i64 u.line) ∧ W.cell? ⟨b, m * 4 + 1, none⟩ = some (.int .i64 u.fl) ∧ W.cell? ⟨b, m * 4 + 2, none⟩ = some (.string u.text) ∧ W.cell? ⟨b, m * 4 + 3, none⟩ = some (.bool u.warn) ∧ W.cell? ⟨b, h * 4, none⟩ = some (.int .i64 v.line) ∧ W.cell? ⟨b, h * 4 + 1, none⟩ = some (.int .i64 v.fl) ∧ W.cell? ⟨b, h * 4 + 2, none⟩ = some (.string v.text) ∧ W.cell? ⟨b, h * 4 + 3, none⟩ = some (.bool v.warn) ∧ QInv b m h u v wr W)
          (first | exact (unhide HQ).cells | exact (unhide HQ).drew.cells | (go_split_ands; exact (QInv.below (by assumption) (by assumption)).cells))
          ((go_at_call 18; refine (unhide C _).mono ?_; rintro e w2 ⟨rfl, hB2⟩))
        go_split_ands
        rename_i hQ2
        clear hB2
        have HM2 : Hid (Mem w2 b n F ∧ Kept b w w2) := hide ⟨(unhide HM).1.below hn0 hQ2.2.2.1, (unhide HM).2.trans (Kept.ofBelow hQ2.2.2.1)⟩
        clear HM HQ hQ2
        go_wp2_with fail
        go_roundw
        case rel => exact ⟨p, h, hmp, by omega, by omega, rfl, rfl, H1, H2', HM2⟩
        case measure => simp [intOf]; omega
      · have H1' : Hid (∀ k, x ≤ k → k < h + 1 → (F k).fl ≤ (F m).fl) := hide (fun k k1 k2 => by
          by_cases e : k = h
          · subst e; omega
          · have := unhide hs k h (by omega) (by omega) (by omega); omega)
        clear H1
        generalize F h = v at *
        generalize hx : F m = u at *
        clear hx
        have hc' : ¬ (u.fl - v.fl < 0) := by omega
        have hdec : decide (u.fl - v.fl < 0) = false := by simp; omega
        go_wp2_with fail
        go_region_held3 (fun W => W.cell? ⟨b, m * 4, none⟩ = some (.int .i64 u.line) ∧ W.cell? ⟨b, m * 4 + 1, none⟩ = some (.int .i64 u.fl) ∧ W.cell? ⟨b, m * 4 + 2, none⟩ = some (.string u.text) ∧ W.cell? ⟨b, m * 4 + 3, none⟩ = some (.bool u.warn) ∧ W.cell? ⟨b, h * 4, none⟩ = some (.int .i64 v.line) ∧ W.cell? ⟨b, h * 4 + 1, none⟩ = some (.int .i64 v.fl) ∧ W.cell? ⟨b, h * 4 + 2, none⟩ = some (.string v.text) ∧ W.cell? ⟨b, h * 4 + 3, none⟩ = some (.bool v.warn) ∧ QInv b m h u v wr W)
          (first | exact (unhide HQ).cells | exact (unhide HQ).drew.cells | (go_split_ands; exact (QInv.below (by assumption) (by assumption)).cells))
          ((go_at_call 18; refine (unhide C _).mono ?_; rintro e w2 ⟨rfl, hB2⟩))
        go_split_ands
        rename_i hQ2
        clear hB2
        have HM2 : Hid (Mem w2 b n F ∧ Kept b w w2) := hide ⟨(unhide HM).1.below hn0 hQ2.2.2.1, (unhide HM).2.trans (Kept.ofBelow hQ2.2.2.1)⟩
        clear HM HQ hQ2
        go_wp2_with fail
        go_roundw
        case rel => exact ⟨h + 1, q, by omega, by omega, hqy, by go_num, rfl, H1', H2, HM2⟩
        case measure => simp [intOf]; omega
    · have hpq' : q = p := by omega
      subst hpq'
      have HE := hide (srt_right n F x q m hmp hqy (unhide hs) (unhide H1) (unhide H2) hmn)
      clear H1 H2
      go_wp2_with fail
      go_loopw [17] (fun i wr => ∃ k : Nat, q ≤ k ∧ k ≤ m ∧ i = .int .i64 k ∧ Hid (Mem wr b n (rot F k m (m + 1))) ∧ Hid (Kept b w wr)) (fun i _ => (intOf i).toNat)
      case atStart => exact ⟨m, hqy, Nat.le_refl _, rfl, hide (by rw [rot_top]; exact (unhide HM).1), hide (unhide HM).2⟩
      case round =>
        clear HM
        obtain ⟨k, hxk, hkq, rfl, HM, HK⟩ := hrel
        by_cases hlk : q < k
        · have hlk' : (q : Int) < (k : Int) := by omega
          have kn : k < n := by omega
          have kn' : (k : Int) < (n : Int) := by omega
          have kn1 : k - 1 < n := by omega
          have y1 : (k : Int) - 1 = ((k - 1 : Nat) : Int) := by omega
          obtain ⟨d1, d2, d3, d4⟩ := (unhide HM).dat k kn
          obtain ⟨e1, e2, e3, e4⟩ := (unhide HM).dat (k - 1) kn1
          simp only [Nat.zero_add] at d1 d2 d3 d4 e1 e2 e3 e4
          have hf := (unhide HM).frozen hn0
          have HS : Hid (Mem (swW wr b k (k - 1) (rot F k m (m + 1) k) (rot F k m (m + 1) (k - 1))) b n (rot F (k - 1) m (m + 1))) := hide (by
            rw [← rot_down F k m (by omega) hkq]
            exact (unhide HM).swap k (k - 1) kn kn1 (by omega))
          have Hpq : Hid (q ≤ k - 1 ∧ k - 1 < k ∧ k - 1 ≤ m) := hide ⟨by omega, by omega, by omega⟩
          clear HM hlk
          generalize rot F k m (m + 1) k = u at *
          generalize rot F k m (m + 1) (k - 1) = v at *
          have kn1' : ((k - 1 : Nat) : Int) < (n : Int) := by omega
          generalize hkk : k - 1 = l at *
          clear hkk
          have g0 := hf (k * 4)
          have g1 := hf (k * 4 + 1)
          have g2 := hf (k * 4 + 2)
          have g3 := hf (k * 4 + 3)
          have g4 := hf (l * 4)
          have g5 := hf (l * 4 + 1)
          have g6 := hf (l * 4 + 2)
          have g7 := hf (l * 4 + 3)
          clear hf
          have hpq1 : ¬ k = l := by have := unhide Hpq; omega
          have hpq2 : ¬ l = k := by have := unhide Hpq; omega
          have z0 : ¬ k * 4 = l * 4 := by have := unhide Hpq; omega
          have z1 : ¬ l * 4 = k * 4 := by have := unhide Hpq; omega
          have z2 : ¬ k * 4 = l * 4 + 1 := by have := unhide Hpq; omega
          have z3 : ¬ l * 4 + 1 = k * 4 := by have := unhide Hpq; omega
          have z4 : ¬ k * 4 = l * 4 + 2 := by have := unhide Hpq; omega
          have z5 : ¬ l * 4 + 2 = k * 4 := by have := unhide Hpq; omega
          have z6 : ¬ k * 4 = l * 4 + 3 := by have := unhide Hpq; omega
          have z7 : ¬ l * 4 + 3 = k * 4 := by have := unhide Hpq; omega
          have z8 : ¬ k * 4 + 1 = l * 4 := by have := unhide Hpq; omega
          have z9 : ¬ l * 4 = k * 4 + 1 := by have := unhide Hpq; omega
          have z10 : ¬ k * 4 + 1 = l * 4 + 1 := by have := unhide Hpq; omega
          have z11 : ¬ l * 4 + 1 = k * 4 + 1 := by have := unhide Hpq; omega
          have z12 : ¬ k * 4 + 1 = l * 4 + 2 := by have := unhide Hpq; omega
          have z13 : ¬ l * 4 + 2 = k * 4 + 1 := by have := unhide Hpq; omega
          have z14 : ¬ k * 4 + 1 = l * 4 + 3 := by have := unhide Hpq; omega
          have z15 : ¬ l * 4 + 3 = k * 4 + 1 := by have := unhide Hpq; omega
          have z16 : ¬ k * 4 + 2 = l * 4 := by have := unhide Hpq; omega
          have z17 : ¬ l * 4 = k * 4 + 2 := by have := unhide Hpq; omega
          have z18 : ¬ k * 4 + 2 = l * 4 + 1 := by have := unhide Hpq; omega
          have z19 : ¬ l * 4 + 1 = k * 4 + 2 := by have := unhide Hpq; omega
          have z20 : ¬ k * 4 + 2 = l * 4 + 2 := by have := unhide Hpq; omega
          have z21 : ¬ l * 4 + 2 = k * 4 + 2 := by have := unhide Hpq; omega
          have z22 : ¬ k * 4 + 2 = l * 4 + 3 := by have := unhide Hpq; omega
          have z23 : ¬ l * 4 + 3 = k * 4 + 2 := by have := unhide Hpq; omega
          have z24 : ¬ k * 4 + 3 = l * 4 := by have := unhide Hpq; omega
          have z25 : ¬ l * 4 = k * 4 + 3 := by have := unhide Hpq; omega
          have z26 : ¬ k * 4 + 3 = l * 4 + 1 := by have := unhide Hpq; omega
          have z27 : ¬ l * 4 + 1 = k * 4 + 3 := by have := unhide Hpq; omega
          have z28 : ¬ k * 4 + 3 = l * 4 + 2 := by have := unhide Hpq; omega
          have z29 : ¬ l * 4 + 2 = k * 4 + 3 := by have := unhide Hpq; omega
          have z30 : ¬ k * 4 + 3 = l * 4 + 3 := by have := unhide Hpq; omega
          have z31 : ¬ l * 4 + 3 = k * 4 + 3 := by have := unhide Hpq; omega
          go_wp2_with fail
          go_region
          go_wp2_with fail
          go_roundw
          case rel => exact ⟨l, (unhide Hpq).1, (unhide Hpq).2.2, by first | rfl | go_num, hide (Mem.drew (unhide HS)), hide ((unhide HK).swW k l u v).drew⟩
          case measure => simp [intOf]; have := unhide Hpq; omega
        · have hlk' : ¬ (q : Int) < (k : Int) := by omega
          have ek : k = q := by omega
          go_wp2_with fail
          first | go_end0 | refine bodyPost_ret (results_none rfl _ _ _) rfl ?_
          exact ⟨rot F q m (m + 1), ⟨rfl, by rw [← ek]; exact unhide HM, unhide HK⟩, by rw [unhide Hy]; exact unhide HE⟩
end Go.Proofs.Qxb6002619a
