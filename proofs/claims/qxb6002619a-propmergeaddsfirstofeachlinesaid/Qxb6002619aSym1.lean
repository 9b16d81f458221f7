/- slices.symMergeCmpFunc: one element on the left -/
import Derived.Test.Qxb6002619aInsert
namespace Go.Proofs.Qxb6002619a
open Go.ChangeShapes Go.WideShapes Go.ChangeAt Go.RowKit
set_option linter.unusedVariables false
set_option linter.unusedSimpArgs false

theorem rot_step (F : Nat → Dg) (x k : Nat) (h : x ≤ k) : swp (rot F x (x + 1) (k + 1)) k (k + 1) = rot F x (x + 1) (k + 2) := by
  funext i
  unfold swp rot
  by_cases e1 : i = k
  · subst e1
    rw [if_pos rfl, if_neg (by omega), if_pos (by omega), if_pos (by omega)]; congr 1; omega
  · rw [if_neg e1]
    by_cases e2 : i = k + 1
    · subst e2
      rw [if_pos rfl, if_pos (by omega), if_neg (by omega), if_pos (by omega), if_neg (by omega)]; congr 1; omega
    · rw [if_neg e2]
      by_cases e3 : x ≤ i ∧ i < k + 1
      · rw [if_pos e3, if_pos (show x ≤ i ∧ i < k + 2 by omega), if_pos (show i < x + (k + 1 - (x + 1)) by omega), if_pos (show i < x + (k + 2 - (x + 1)) by omega)]
      · rw [if_neg e3, if_neg (show ¬ (x ≤ i ∧ i < k + 2) by omega)]
theorem rot_start (F : Nat → Dg) (x : Nat) : rot F x (x + 1) (x + 1) = F := by
  funext i
  unfold rot
  by_cases e3 : x ≤ i ∧ i < x + 1
  · rw [if_pos e3, if_neg (by omega)]; congr 1; omega
  · rw [if_neg e3]
/-- data[x] inserted before place p of a sorted right side -/
theorem srt_left (n : Nat) (F : Nat → Dg) (x p y : Nat) (hp1 : x + 1 ≤ p) (hp2 : p ≤ y) (hs : Srt F (x + 1) y) (h1 : ∀ k, x + 1 ≤ k → k < p → (F k).fl < (F x).fl) (h2 : ∀ k, p ≤ k → k < y → (F x).fl ≤ (F k).fl) (hy : y ≤ n) :
    Mix n F (rot F x (x + 1) p) x y ∧ Srt (rot F x (x + 1) p) x y := by
  constructor
  · refine (mix_rot n F x (x + 1) p (by omega) hp1 (by omega) fun i j i1 i2 j1 j2 => ?_).mono (Nat.le_refl _) hp2
    rw [show i = x by omega]
    have := h1 j j1 j2; omega
  · have e1 : ∀ k, x ≤ k → k < p - 1 → rot F x (x + 1) p k = F (k + 1) := fun k k1 k2 => by unfold rot; rw [if_pos (by omega), if_pos (by omega)]; congr 1; omega
    have e2 : rot F x (x + 1) p (p - 1) = F x := by unfold rot; rw [if_pos (by omega), if_neg (by omega)]; congr 1; omega
    have e3 : ∀ k, p ≤ k → rot F x (x + 1) p k = F k := fun k k1 => by unfold rot; rw [if_neg (by omega)]
    intro i j i1 i2 i3
    by_cases c1 : j < p - 1
    · rw [e1 i i1 (by omega), e1 j (by omega) c1]; exact hs _ _ (by omega) (by omega) (by omega)
    · by_cases c2 : j = p - 1
      · subst c2
        rw [e2, e1 i i1 i2]; exact Int.le_of_lt (h1 _ (by omega) (by omega))
      · rw [e3 j (by omega)]
        by_cases c3 : i < p - 1
        · rw [e1 i i1 c3]; exact hs _ _ (by omega) (by omega) i3
        · by_cases c4 : i = p - 1
          · subst c4; rw [e2]; exact h2 j (by omega) i3
          · rw [e3 i (by omega)]; exact hs _ _ (by omega) i2 i3

set_option maxRecDepth 100000 in
set_option maxHeartbeats 3200000 in
theorem sym_one (b n c x m y : Nat) (F : Nat → Dg) (w : World) (hn : n ≤ 4096) (hM : Hid (Mem w b n F)) (hm : m = x + 1) (hmy : m < y) (hy : y ≤ n) (hP : Hid (PosD n F)) (hs : Hid (Srt F m y)) :
    Calls Try.prog 26 #[.slice (some ⟨b, 0, none⟩) n c, .int .i64 (x : Int), .int .i64 (m : Int), .int .i64 (y : Int), .func (.func 18) #[] #[]] w fun e w' => IsPost w b n x y F e w' := by
  have hn' : (n : Int) ≤ 4096 := by omega
  have hn0 : 0 < n := by omega
  have hy' : (y : Int) ≤ 4096 := by omega
  have hx' : (x : Int) ≤ 4096 := by omega
  have hm' : (m : Int) ≤ 4096 := by omega
  have hmx : (m : Int) - (x : Int) = 1 := by omega
  have hxn : x < n := by omega
  have hxn' : (x : Int) < (n : Int) := by omega
  have Hm := hide hm
  clear hm
  go_enter Try.func26, Try.ntmps26
  go_wp2_with fail
  go_loopw [10, 11] (fun i j wr => ∃ p q : Nat, m ≤ p ∧ p ≤ q ∧ q ≤ y ∧ i = .int .i64 p ∧ j = .int .i64 q ∧ Hid (∀ k, m ≤ k → k < p → (F k).fl < (F x).fl) ∧ Hid (∀ k, q ≤ k → k < y → (F x).fl ≤ (F k).fl) ∧ Hid (Mem wr b n F ∧ Kept b w wr)) (fun i j _ => (intOf j).toNat - (intOf i).toNat)
  case atStart => exact ⟨m, y, Nat.le_refl _, by omega, Nat.le_refl _, rfl, rfl, hide (fun k h1 h2 => by omega), hide (fun k h1 h2 => by omega), hide ⟨unhide hM, Kept.refl _ _⟩⟩
  case round =>
    clear hM
    obtain ⟨p, q, hmp, hpq, hqy, rfl, rfl, H1, H2, HM⟩ := hrel
    have p' : (p : Int) ≤ 4096 := by omega
    by_cases hlt : p < q
    · have hlt' : (p : Int) < (q : Int) := by omega
      have b0 : (0 : Int) ≤ (p : Int) + (q : Int) := by omega
      have b1 : (p : Int) + (q : Int) ≤ 131072 := by omega
      have e1 : ((p : Int) + (q : Int)) / 2 = (((p + q) / 2 : Nat) : Int) := by omega
      have m1 : p ≤ (p + q) / 2 := by omega
      have m2 : (p + q) / 2 < q := by omega
      generalize hhh : (p + q) / 2 = h at *
      clear hhh
      have h4 : h < n := by omega
      have h5 : (0 : Int) ≤ (h : Int) := by omega
      have h6 : (h : Int) < (n : Int) := by omega
      have h7 : (h : Int) ≤ 4096 := by omega
      have HQ := hide (QInv.mk' (unhide HM).1 h4 hxn)
      have hp := unhide hP
      have C := hide (fun W => cmp18 (F h) (F x) W (hp h h4).1 (hp h h4).2 (hp x hxn).1 (hp x hxn).2)
      have p1 := (hp h h4).1
      have p2 := (hp h h4).2
      have p3 := (hp x hxn).1
      have p4 := (hp x hxn).2
      clear hp
      by_cases hc : (F h).fl < (F x).fl
      · have H1' : Hid (∀ k, m ≤ k → k < h + 1 → (F k).fl < (F x).fl) := hide (fun k k1 k2 => by
          by_cases e : k = h
          · subst e; exact hc
          · have := unhide hs k h k1 (by omega) (by omega); omega)
        clear H1
        generalize F h = u at *
        generalize hx : F x = v at *
        clear hx
        have hc' : u.fl - v.fl < 0 := by omega
        go_wp2_with fail
        go_region_held3 (fun W => W.cell? ⟨b, h * 4, none⟩ = some (.int .i64 u.line) ∧ W.cell? ⟨b, h * 4 + 1, none⟩ = some (.int .i64 u.fl) ∧ W.cell? ⟨b, h * 4 + 2, none⟩ = some (.string u.text) ∧ W.cell? ⟨b, h * 4 + 3, none⟩ = some (.bool u.warn) ∧ W.cell? ⟨b, x * 4, none⟩ = some (.int .i64 v.line) ∧ W.cell? ⟨b, x * 4 + 1, none⟩ = some (.int .i64 v.fl) ∧ W.cell? ⟨b, x * 4 + 2, none⟩ = some (.string v.text) ∧ W.cell? ⟨b, x * 4 + 3, none⟩ = some (.bool v.warn) ∧ QInv b h x u v wr W)
          (first | exact (unhide HQ).cells | exact (unhide HQ).drew.cells | (go_split_ands; exact (QInv.below (by assumption) (by assumption)).cells))
          ((go_at_call 18; refine (unhide C _).mono ?_; rintro e w2 ⟨rfl, hB2⟩))
        go_split_ands
        rename_i hQ2
        clear hB2
        have HM2 : Hid (Mem w2 b n F ∧ Kept b w w2) := hide ⟨(unhide HM).1.below hn0 hQ2.2.2.1, (unhide HM).2.trans (Kept.ofBelow hQ2.2.2.1)⟩
        clear HM HQ hQ2
        go_wp2_with fail
        go_roundw
        case rel => exact ⟨h + 1, q, by omega, by omega, hqy, by go_num, rfl, H1', H2, HM2⟩
        case measure => simp [intOf]; omega
      · have H2' : Hid (∀ k, h ≤ k → k < y → (F x).fl ≤ (F k).fl) := hide (fun k k1 k2 => by
          by_cases e : k = h
          · subst e; omega
          · have := unhide hs h k (by omega) (by omega) (by omega); omega)
        clear H2
        generalize F h = u at *
        generalize hx : F x = v at *
        clear hx
        have hc' : ¬ (u.fl - v.fl < 0) := by omega
        go_wp2_with fail
        go_region_held3 (fun W => W.cell? ⟨b, h * 4, none⟩ = some (.int .i64 u.line) ∧ W.cell? ⟨b, h * 4 + 1, none⟩ = some (.int .i64 u.fl) ∧ W.cell? ⟨b, h * 4 + 2, none⟩ = some (.string u.text) ∧ W.cell? ⟨b, h * 4 + 3, none⟩ = some (.bool u.warn) ∧ W.cell? ⟨b, x * 4, none⟩ = some (.int .i64 v.line) ∧ W.cell? ⟨b, x * 4 + 1, none⟩ = some (.int .i64 v.fl) ∧ W.cell? ⟨b, x * 4 + 2, none⟩ = some (.string v.text) ∧ W.cell? ⟨b, x * 4 + 3, none⟩ = some (.bool v.warn) ∧ QInv b h x u v wr W)
          (first | exact (unhide HQ).cells | exact (unhide HQ).drew.cells | (go_split_ands; exact (QInv.below (by assumption) (by assumption)).cells))
          ((go_at_call 18; refine (unhide C _).mono ?_; rintro e w2 ⟨rfl, hB2⟩))
        go_split_ands
        rename_i hQ2
        clear hB2
        have HM2 : Hid (Mem w2 b n F ∧ Kept b w w2) := hide ⟨(unhide HM).1.below hn0 hQ2.2.2.1, (unhide HM).2.trans (Kept.ofBelow hQ2.2.2.1)⟩
        clear HM HQ hQ2
        go_wp2_with fail
        go_roundw
        case rel => exact ⟨p, h, hmp, by omega, by omega, rfl, rfl, H1, H2', HM2⟩
        case measure => simp [intOf]; omega
    · have hpq' : q = p := by omega
      subst hpq'
      have HE := hide (srt_left n F x q y (by have := unhide Hm; omega) hqy (by have := unhide hs; rwa [unhide Hm] at this) (fun k k1 k2 => unhide H1 k (by have := unhide Hm; omega) k2) (unhide H2) hy)
      clear H1 H2
      have q1 : (q : Int) - 1 = ((q - 1 : Nat) : Int) := by have := unhide Hm; omega
      go_wp2_with fail
      go_loopw [13] (fun i wr => ∃ k : Nat, x ≤ k ∧ k ≤ q - 1 ∧ i = .int .i64 k ∧ Hid (Mem wr b n (rot F x (x + 1) (k + 1))) ∧ Hid (Kept b w wr)) (fun i _ => q - (intOf i).toNat)
      case atStart => exact ⟨x, Nat.le_refl _, by have := unhide Hm; omega, rfl, hide (by rw [rot_start]; exact (unhide HM).1), hide (unhide HM).2⟩
      case round =>
        clear HM
        obtain ⟨k, hxk, hkq, rfl, HM, HK⟩ := hrel
        have hq0 : 0 < q := by have := unhide Hm; omega
        by_cases hlk : k < q - 1
        · have hlk' : (k : Int) < ((q - 1 : Nat) : Int) := by omega
          have kn : k < n := by omega
          have kn' : (k : Int) < (n : Int) := by omega
          have kn1 : k + 1 < n := by omega
          have y1 : (k : Int) + 1 = ((k + 1 : Nat) : Int) := by omega
          obtain ⟨d1, d2, d3, d4⟩ := (unhide HM).dat k kn
          obtain ⟨e1, e2, e3, e4⟩ := (unhide HM).dat (k + 1) kn1
          simp only [Nat.zero_add] at d1 d2 d3 d4 e1 e2 e3 e4
          have hf := (unhide HM).frozen hn0
          have HS : Hid (Mem (swW wr b k (k + 1) (rot F x (x + 1) (k + 1) k) (rot F x (x + 1) (k + 1) (k + 1))) b n (rot F x (x + 1) (k + 2))) := hide (by
            rw [← rot_step F x k hxk]
            exact (unhide HM).swap k (k + 1) kn kn1 (by omega))
          have Hpq : Hid (k + 1 ≤ q - 1 ∧ k < k + 1) := hide ⟨by omega, by omega⟩
          have Hr : Hid (x ≤ k + 1) := hide (by omega)
          have Hz : Hid (k + 1 = k + 1) := hide rfl
          clear HM hlk
          generalize rot F x (x + 1) (k + 1) k = u at *
          generalize rot F x (x + 1) (k + 1) (k + 1) = v at *
          have HS' : Hid (Mem (swW wr b k (k + 1) u v) b n (rot F x (x + 1) (k + 1 + 1))) := HS
          clear HS
          have kn1' : ((k + 1 : Nat) : Int) < (n : Int) := by omega
          generalize hkk : k + 1 = l at *
          have Hl := hide hkk
          clear hkk
          have g0 := hf (k * 4)
          have g1 := hf (k * 4 + 1)
          have g2 := hf (k * 4 + 2)
          have g3 := hf (k * 4 + 3)
          have g4 := hf (l * 4)
          have g5 := hf (l * 4 + 1)
          have g6 := hf (l * 4 + 2)
          have g7 := hf (l * 4 + 3)
          clear hf
          have hpq1 : ¬ k = l := by have := unhide Hpq; omega
          have hpq2 : ¬ l = k := by have := unhide Hpq; omega
          have z0 : ¬ k * 4 = l * 4 := by have := unhide Hpq; omega
          have z1 : ¬ l * 4 = k * 4 := by have := unhide Hpq; omega
          have z2 : ¬ k * 4 = l * 4 + 1 := by have := unhide Hpq; omega
          have z3 : ¬ l * 4 + 1 = k * 4 := by have := unhide Hpq; omega
          have z4 : ¬ k * 4 = l * 4 + 2 := by have := unhide Hpq; omega
          have z5 : ¬ l * 4 + 2 = k * 4 := by have := unhide Hpq; omega
          have z6 : ¬ k * 4 = l * 4 + 3 := by have := unhide Hpq; omega
          have z7 : ¬ l * 4 + 3 = k * 4 := by have := unhide Hpq; omega
          have z8 : ¬ k * 4 + 1 = l * 4 := by have := unhide Hpq; omega
          have z9 : ¬ l * 4 = k * 4 + 1 := by have := unhide Hpq; omega
          have z10 : ¬ k * 4 + 1 = l * 4 + 1 := by have := unhide Hpq; omega
          have z11 : ¬ l * 4 + 1 = k * 4 + 1 := by have := unhide Hpq; omega
          have z12 : ¬ k * 4 + 1 = l * 4 + 2 := by have := unhide Hpq; omega
          have z13 : ¬ l * 4 + 2 = k * 4 + 1 := by have := unhide Hpq; omega
          have z14 : ¬ k * 4 + 1 = l * 4 + 3 := by have := unhide Hpq; omega
          have z15 : ¬ l * 4 + 3 = k * 4 + 1 := by have := unhide Hpq; omega
          have z16 : ¬ k * 4 + 2 = l * 4 := by have := unhide Hpq; omega
          have z17 : ¬ l * 4 = k * 4 + 2 := by have := unhide Hpq; omega
          have z18 : ¬ k * 4 + 2 = l * 4 + 1 := by have := unhide Hpq; omega
          have z19 : ¬ l * 4 + 1 = k * 4 + 2 := by have := unhide Hpq; omega
          have z20 : ¬ k * 4 + 2 = l * 4 + 2 := by have := unhide Hpq; omega
          have z21 : ¬ l * 4 + 2 = k * 4 + 2 := by have := unhide Hpq; omega
          have z22 : ¬ k * 4 + 2 = l * 4 + 3 := by have := unhide Hpq; omega
          have z23 : ¬ l * 4 + 3 = k * 4 + 2 := by have := unhide Hpq; omega
          have z24 : ¬ k * 4 + 3 = l * 4 := by have := unhide Hpq; omega
          have z25 : ¬ l * 4 = k * 4 + 3 := by have := unhide Hpq; omega
          have z26 : ¬ k * 4 + 3 = l * 4 + 1 := by have := unhide Hpq; omega
          have z27 : ¬ l * 4 + 1 = k * 4 + 3 := by have := unhide Hpq; omega
          have z28 : ¬ k * 4 + 3 = l * 4 + 2 := by have := unhide Hpq; omega
          have z29 : ¬ l * 4 + 2 = k * 4 + 3 := by have := unhide Hpq; omega
          have z30 : ¬ k * 4 + 3 = l * 4 + 3 := by have := unhide Hpq; omega
          have z31 : ¬ l * 4 + 3 = k * 4 + 3 := by have := unhide Hpq; omega
          go_wp2_with fail
          go_region
          go_wp2_with fail
          go_roundw
          case rel => exact ⟨l, unhide Hr, (unhide Hpq).1, by first | rfl | go_num, hide (Mem.drew (unhide HS')), hide ((unhide HK).swW k l u v).drew⟩
          case measure => simp [intOf]; have := unhide Hl; omega
        · have hlk' : ¬ (k : Int) < ((q - 1 : Nat) : Int) := by omega
          have ek : k + 1 = q := by omega
          go_wp2_with fail
          first | go_end0 | refine bodyPost_ret (results_none rfl _ _ _) rfl ?_
          exact ⟨_, ⟨rfl, by rw [← ek]; exact unhide HM, unhide HK⟩, unhide HE⟩
end Go.Proofs.Qxb6002619a
