/- slices.symMergeCmpFunc: the general arm, mid < m -/
import Derived.Test.Qxb6002619aInsert
import Derived.Test.Qxb6002619aSymP
namespace Go.Proofs.Qxb6002619a
open Go.ChangeShapes Go.WideShapes Go.ChangeAt Go.RowKit
set_option linter.unusedVariables false
set_option linter.unusedSimpArgs false

set_option maxRecDepth 100000 in
set_option maxHeartbeats 6400000 in
theorem sym_recA (b n c x m y : Nat) (F : Nat → Dg) (w : World) (hn : n ≤ 4096) (hM : Hid (Mem w b n F)) (hxm : x + 1 < m) (hmy : m + 1 < y) (hy : y ≤ n) (hP : Hid (PosD n F)) (hs1 : Hid (Srt F x m)) (hs2 : Hid (Srt F m y))
    (mid : Nat) (hmid : mid = (x + y) / 2) (hcase : mid < m)
    (IH : Hid (∀ (x' m' y' : Nat) (F' : Nat → Dg) (w' : World), y' - x' < y - x → Mem w' b n F' → x' < m' → m' < y' → y' ≤ n → PosD n F' → Srt F' x' m' → Srt F' m' y' → Calls Try.prog 26 #[.slice (some ⟨b, 0, none⟩) n c, .int .i64 (x' : Int), .int .i64 (m' : Int), .int .i64 (y' : Int), .func (.func 18) #[] #[]] w' fun e w'' => IsPost w' b n x' y' F' e w'')) :
    Calls Try.prog 26 #[.slice (some ⟨b, 0, none⟩) n c, .int .i64 (x : Int), .int .i64 (m : Int), .int .i64 (y : Int), .func (.func 18) #[] #[]] w fun e w' => IsPost w b n x y F e w' := by
  have hn' : (n : Int) ≤ 4096 := by omega
  have hn0 : 0 < n := by omega
  have hy' : (y : Int) ≤ 4096 := by omega
  have hx' : (x : Int) ≤ 4096 := by omega
  have hm' : (m : Int) ≤ 4096 := by omega
  have hmx : ¬ (m : Int) - (x : Int) = 1 := by omega
  have hmxb : ((m : Int) - (x : Int) == 1) = false := by simpa using hmx
  have hym : ¬ (y : Int) - (m : Int) = 1 := by omega
  have hymb : ((y : Int) - (m : Int) == 1) = false := by simpa using hym
  have b0 : (0 : Int) ≤ (x : Int) + (y : Int) := by omega
  have b1 : (x : Int) + (y : Int) ≤ 131072 := by omega
  have e1 : ((x : Int) + (y : Int)) / 2 = (mid : Int) := by omega
  have mid1 : x < mid := by omega
  have mid2 : mid < y := by omega
  have mid3 : x + y ≤ 2 * mid + 1 := by omega
  have mid4 : 2 * mid ≤ x + y := by omega
  clear hmid
  have mid' : (mid : Int) ≤ 4096 := by omega
  have eN : (mid : Int) + (m : Int) = ((mid + m : Nat) : Int) := by omega
  have eP : ((mid + m : Nat) : Int) - 1 = ((mid + m - 1 : Nat) : Int) := by omega
  have hcI : (mid : Int) < (m : Int) := by omega
  obtain ⟨s0, r0, hs0, hr0⟩ : ∃ s0 r0, s0 = mid + m - y ∧ r0 = mid := ⟨_, _, rfl, rfl⟩
  have k0 : x ≤ s0 := by omega
  have k1 : s0 ≤ r0 := by omega
  have k2 : r0 ≤ m := by omega
  have k3 : m + r0 ≤ mid + m := by omega
  have k4 : mid + m ≤ s0 + y := by omega
  have KL : Hid (s0 = x ∨ mid + m = s0 + y) := hide (by omega)
  have KR : Hid (r0 = m ∨ mid + m = r0 + m) := hide (by omega)
  have eS : ((mid + m : Nat) : Int) - (y : Int) = (s0 : Int) := by omega
  have er0 : mid = r0 := hr0.symm
  clear hs0 hr0
  subst er0
  generalize hN : mid + m = N at *
  have HN := hide hN
  clear hN
  generalize hPP : N - 1 = pp at *
  have HPP := hide hPP
  clear hPP
  have N1 : (N : Int) ≤ 8192 := by have := unhide HN; omega
  have pp1 : (pp : Int) ≤ 8192 := by have := unhide HN; have := unhide HPP; omega
  go_enter Try.func26, Try.ntmps26
  go_wp2_with fail
  go_loopw [20, 21] (fun i j wr => ∃ p q : Nat, s0 ≤ p ∧ p ≤ q ∧ q ≤ mid ∧ i = .int .i64 p ∧ j = .int .i64 q ∧ Hid (∀ k, s0 ≤ k → k < p → (F k).fl ≤ (F (pp - k)).fl) ∧ Hid (∀ k, q ≤ k → k < mid → (F (pp - k)).fl < (F k).fl) ∧ Hid (Mem wr b n F ∧ Kept b w wr)) (fun i j _ => (intOf j).toNat - (intOf i).toNat)
  case atStart => exact ⟨s0, mid, Nat.le_refl _, k1, Nat.le_refl _, rfl, rfl, hide (fun k h1 h2 => by omega), hide (fun k h1 h2 => by omega), hide ⟨unhide hM, Kept.refl _ _⟩⟩
  case round =>
    clear hM
    obtain ⟨p, q, hmp, hpq, hqy, rfl, rfl, H1, H2, HM⟩ := hrel
    have p' : (p : Int) ≤ 4096 := by omega
    by_cases hlt : p < q
    · have hlt' : (p : Int) < (q : Int) := by omega
      have b0' : (0 : Int) ≤ (p : Int) + (q : Int) := by omega
      have b1' : (p : Int) + (q : Int) ≤ 131072 := by omega
      have e1' : ((p : Int) + (q : Int)) / 2 = (((p + q) / 2 : Nat) : Int) := by omega
      have m1 : p ≤ (p + q) / 2 := by omega
      have m2 : (p + q) / 2 < q := by omega
      generalize hhh : (p + q) / 2 = h at *
      clear hhh
      have h4 : h < n := by omega
      have h5 : (0 : Int) ≤ (h : Int) := by omega
      have h6 : (h : Int) < (n : Int) := by omega
      have h7 : (h : Int) ≤ 4096 := by omega
      have HD : Hid (m ≤ pp - h ∧ pp - h < y ∧ h ≤ pp) := hide (by have := unhide HN; have := unhide HPP; omega)
      have l4 : pp - h < n := by have := unhide HD; omega
      have l5 : (0 : Int) ≤ ((pp - h : Nat) : Int) := by omega
      have l6 : ((pp - h : Nat) : Int) < (n : Int) := by omega
      have y0 : IntKind.i64.wrap ((pp : Int) - (h : Int)) = ((pp - h : Nat) : Int) := by have := unhide HD; rw [IntKind.wrap_i64]; omega
      have HQ := hide (QInv.mk' (unhide HM).1 l4 h4)
      have hp := unhide hP
      have C := hide (fun W => cmp18 (F (pp - h)) (F h) W (hp _ l4).1 (hp _ l4).2 (hp h h4).1 (hp h h4).2)
      have p1 := (hp h h4).1
      have p2 := (hp h h4).2
      have p3 := (hp _ l4).1
      have p4 := (hp _ l4).2
      clear hp
      by_cases hc : (F (pp - h)).fl < (F h).fl
      · have H2' : Hid (∀ k, h ≤ k → k < mid → (F (pp - k)).fl < (F k).fl) := hide (fun k k1 k2 => by
          have d := unhide HD
          have d1 := unhide HN
          have d2 := unhide HPP
          by_cases e : k = h
          · subst e; exact hc
          · have g1 := unhide hs1 h k (by omega) (by omega) (by omega)
            have g2 := unhide hs2 (pp - k) (pp - h) (by omega) (by omega) (by omega)
            omega)
        clear H2
        generalize F h = v at *
        generalize F (pp - h) = u at *
        generalize pp - h = l at *
        have hc' : u.fl - v.fl < 0 := by omega
        have hdec : decide (u.fl - v.fl < 0) = true := by simp; omega
        go_wp2_with fail
        go_region_held3 (fun W => W.cell? ⟨b, l * 4, none⟩ = some (.int .i64 u.line) ∧ W.cell? ⟨b, l * 4 + 1, none⟩ = some (.int .i64 u.fl) ∧ W.cell? ⟨b, l * 4 + 2, none⟩ = some (.string u.text) ∧ W.cell? ⟨b, l * 4 + 3, none⟩ = some (.bool u.warn) ∧ W.cell? ⟨b, h * 4, none⟩ = some (.int .i64 v.line) ∧ W.cell? ⟨b, h * 4 + 1, none⟩ = some (.int .i64 v.fl) ∧ W.cell? ⟨b, h * 4 + 2, none⟩ = some (.string v.text) ∧ W.cell? ⟨b, h * 4 + 3, none⟩ = some (.bool v.warn) ∧ QInv b l h u v wr W)
          (first | exact (unhide HQ).cells | exact (unhide HQ).drew.cells | (go_split_ands; exact (QInv.below (by assumption) (by assumption)).cells))
          ((go_at_call 18; refine (unhide C _).mono ?_; rintro e w2 ⟨rfl, hB2⟩))
        go_split_ands
        rename_i hQ2
        clear hB2
        have HM2 : Hid (Mem w2 b n F ∧ Kept b w w2) := hide ⟨(unhide HM).1.below hn0 hQ2.2.2.1, (unhide HM).2.trans (Kept.ofBelow hQ2.2.2.1)⟩
        clear HM HQ hQ2
        go_wp2_with fail
        go_roundw
        case rel => exact ⟨p, h, hmp, by omega, by omega, rfl, rfl, H1, H2', HM2⟩
        case measure => simp [intOf]; omega
      · have H1' : Hid (∀ k, s0 ≤ k → k < h + 1 → (F k).fl ≤ (F (pp - k)).fl) := hide (fun k k1 k2 => by
          have d := unhide HD
          have d1 := unhide HN
          have d2 := unhide HPP
          by_cases e : k = h
          · subst e; omega
          · have g1 := unhide hs1 k h (by omega) (by omega) (by omega)
            have g2 := unhide hs2 (pp - h) (pp - k) (by omega) (by omega) (by omega)
            omega)
        clear H1
        generalize F h = v at *
        generalize F (pp - h) = u at *
        generalize pp - h = l at *
        have hc' : ¬ (u.fl - v.fl < 0) := by omega
        have hdec : decide (u.fl - v.fl < 0) = false := by simp; omega
        go_wp2_with fail
        go_region_held3 (fun W => W.cell? ⟨b, l * 4, none⟩ = some (.int .i64 u.line) ∧ W.cell? ⟨b, l * 4 + 1, none⟩ = some (.int .i64 u.fl) ∧ W.cell? ⟨b, l * 4 + 2, none⟩ = some (.string u.text) ∧ W.cell? ⟨b, l * 4 + 3, none⟩ = some (.bool u.warn) ∧ W.cell? ⟨b, h * 4, none⟩ = some (.int .i64 v.line) ∧ W.cell? ⟨b, h * 4 + 1, none⟩ = some (.int .i64 v.fl) ∧ W.cell? ⟨b, h * 4 + 2, none⟩ = some (.string v.text) ∧ W.cell? ⟨b, h * 4 + 3, none⟩ = some (.bool v.warn) ∧ QInv b l h u v wr W)
          (first | exact (unhide HQ).cells | exact (unhide HQ).drew.cells | (go_split_ands; exact (QInv.below (by assumption) (by assumption)).cells))
          ((go_at_call 18; refine (unhide C _).mono ?_; rintro e w2 ⟨rfl, hB2⟩))
        go_split_ands
        rename_i hQ2
        clear hB2
        have HM2 : Hid (Mem w2 b n F ∧ Kept b w w2) := hide ⟨(unhide HM).1.below hn0 hQ2.2.2.1, (unhide HM).2.trans (Kept.ofBelow hQ2.2.2.1)⟩
        clear HM HQ hQ2
        go_wp2_with fail
        go_roundw
        case rel => exact ⟨h + 1, q, by omega, by omega, hqy, by go_num, rfl, H1', H2, HM2⟩
        case measure => simp [intOf]; omega
    · have hpq' : q = p := by omega
      subst hpq'
      have HC : Hid (Cut F x m y mid q (N - q)) := hide (by
        have := cut_of F x m y mid s0 mid q (unhide hs1) (unhide hs2) k0 hmp hqy k2 (by have := unhide HN; omega) (by have := unhide HN; omega) (by have := unhide HN; have := unhide KL; omega) (by have := unhide HN; have := unhide KR; omega)
          (by have e := unhide H1; rw [← unhide HPP, ← unhide HN] at e; exact e) (by have e := unhide H2; rw [← unhide HPP, ← unhide HN] at e; exact e)
        rw [unhide HN] at this; exact this)
      clear H1 H2
      have eE : (N : Int) - (q : Int) = ((N - q : Nat) : Int) := by have := unhide HN; omega
      generalize N - q = e at *
      have HH0 := hide (half_of (unhide HC) hy (unhide hs1) (unhide hs2))
      have c1 := (unhide HC).xs
      have c2 := (unhide HC).sm
      have c3 := (unhide HC).me
      have c4 := (unhide HC).ey
      have c5 := (unhide HC).sum
      clear HC hs1 hs2
      obtain ⟨s, hs⟩ : ∃ s, s = q := ⟨_, rfl⟩
      subst hs
      have e' : (e : Int) ≤ 4096 := by omega
      by_cases hR1 : s < m
      · have hR1' : (s : Int) < (m : Int) := by omega
        by_cases hR2 : m < e
        · have hR2' : (m : Int) < (e : Int) := by omega
          have C := hide (rotate_any b n c s m e F (.func (.func 18) #[] #[]) wr hn (hide (unhide HM).1) hR1 hR2 (by omega))
          go_wp2_with fail
          refine (unhide C).mono ?_
          rintro e7 w7 ⟨rfl, q1, q2⟩
          have STU := hide (And.intro q1 ((unhide HM).2.trans q2))
          clear q1 q2 C HM
          generalize rot F s m e = F1 at *
          have HH := HH0
          have h_smid : s < mid := by omega
          have h_smid' : (s : Int) < (mid : Int) := by omega
          have h_mide : mid < e := by omega
          have h_mide' : (mid : Int) < (e : Int) := by omega
          by_cases h_xs : x < s
          · have h_xs' : (x : Int) < (s : Int) := by omega
            by_cases h_ey : e < y
            · have h_ey' : (e : Int) < (y : Int) := by omega
              have C1 := hide (unhide IH x s mid F1 w7 (by omega) (unhide STU).1 h_xs h_smid (by omega) ((unhide HH).mix.pos hy (unhide hP)) (unhide HH).a1 (unhide HH).a2)
              go_wp2_with fail
              refine (unhide C1).mono ?_
              rintro e8 w8 ⟨F2, ⟨rfl, q1, q2⟩, q3, q4⟩
              have STV := hide (And.intro q1 ((unhide STU).2.trans q2))
              have M2 := hide q3
              have S2 := hide q4
              have P2 := hide (Mix.pos q3 (by omega) ((unhide HH).mix.pos hy (unhide hP)))
              clear q1 q2 q3 q4
              have C2 := hide (unhide IH mid e y F2 w8 (by omega) (unhide STV).1 h_mide h_ey hy (unhide P2) (srt_out (unhide M2).out (unhide HH).b1 (by omega)) (srt_out (unhide M2).out (unhide HH).b2 (by omega)))
              go_wp2_with fail
              refine (unhide C2).mono ?_
              rintro e9 w9 ⟨F3, ⟨rfl, q1, q2⟩, q3, q4⟩
              have STW := hide (And.intro q1 ((unhide STV).2.trans q2))
              have M3 := hide q3
              have S3 := hide q4
              clear q1 q2 q3 q4
              go_wp2_with fail
              first | go_end0 | refine bodyPost_ret (results_none rfl _ _ _) rfl ?_
              exact ⟨_, ⟨rfl, (unhide STW).1, (unhide STW).2⟩, sym_end (unhide HH) (by omega) (by omega) (unhide M2) (unhide S2) (unhide M3) (unhide S3)⟩

            · have h_ey' : ¬ (e : Int) < (y : Int) := by omega
              have C1 := hide (unhide IH x s mid F1 w7 (by omega) (unhide STU).1 h_xs h_smid (by omega) ((unhide HH).mix.pos hy (unhide hP)) (unhide HH).a1 (unhide HH).a2)
              go_wp2_with fail
              refine (unhide C1).mono ?_
              rintro e8 w8 ⟨F2, ⟨rfl, q1, q2⟩, q3, q4⟩
              have STV := hide (And.intro q1 ((unhide STU).2.trans q2))
              have M2 := hide q3
              have S2 := hide q4
              have P2 := hide (Mix.pos q3 (by omega) ((unhide HH).mix.pos hy (unhide hP)))
              clear q1 q2 q3 q4
              have STW := STV
              have M3 := hide (Mix.refl n F2 mid y)
              have S3 := hide (srt_join (srt_out (unhide M2).out (unhide HH).b1 (by omega)) (srt_out (unhide M2).out (unhide HH).b2 (by omega)) (by omega))
              go_wp2_with fail
              first | go_end0 | refine bodyPost_ret (results_none rfl _ _ _) rfl ?_
              exact ⟨_, ⟨rfl, (unhide STW).1, (unhide STW).2⟩, sym_end (unhide HH) (by omega) (by omega) (unhide M2) (unhide S2) (unhide M3) (unhide S3)⟩

          · have h_xs' : ¬ (x : Int) < (s : Int) := by omega
            by_cases h_ey : e < y
            · have h_ey' : (e : Int) < (y : Int) := by omega
              have STV := STU
              have M2 := hide (Mix.refl n F1 x mid)
              have S2 := hide (srt_join (unhide HH).a1 (unhide HH).a2 (by omega))
              have P2 := hide ((unhide HH).mix.pos hy (unhide hP))
              have C2 := hide (unhide IH mid e y F1 w7 (by omega) (unhide STV).1 h_mide h_ey hy (unhide P2) (srt_out (unhide M2).out (unhide HH).b1 (by omega)) (srt_out (unhide M2).out (unhide HH).b2 (by omega)))
              go_wp2_with fail
              refine (unhide C2).mono ?_
              rintro e9 w9 ⟨F3, ⟨rfl, q1, q2⟩, q3, q4⟩
              have STW := hide (And.intro q1 ((unhide STV).2.trans q2))
              have M3 := hide q3
              have S3 := hide q4
              clear q1 q2 q3 q4
              go_wp2_with fail
              first | go_end0 | refine bodyPost_ret (results_none rfl _ _ _) rfl ?_
              exact ⟨_, ⟨rfl, (unhide STW).1, (unhide STW).2⟩, sym_end (unhide HH) (by omega) (by omega) (unhide M2) (unhide S2) (unhide M3) (unhide S3)⟩

            · have h_ey' : ¬ (e : Int) < (y : Int) := by omega
              have STV := STU
              have M2 := hide (Mix.refl n F1 x mid)
              have S2 := hide (srt_join (unhide HH).a1 (unhide HH).a2 (by omega))
              have P2 := hide ((unhide HH).mix.pos hy (unhide hP))
              have STW := STV
              have M3 := hide (Mix.refl n F1 mid y)
              have S3 := hide (srt_join (srt_out (unhide M2).out (unhide HH).b1 (by omega)) (srt_out (unhide M2).out (unhide HH).b2 (by omega)) (by omega))
              go_wp2_with fail
              first | go_end0 | refine bodyPost_ret (results_none rfl _ _ _) rfl ?_
              exact ⟨_, ⟨rfl, (unhide STW).1, (unhide STW).2⟩, sym_end (unhide HH) (by omega) (by omega) (unhide M2) (unhide S2) (unhide M3) (unhide S3)⟩

        · have hR2' : ¬ (m : Int) < (e : Int) := by omega
          have STU := HM
          have HH : Hid (Half n F F x y mid s e) := by rw [rot_none F s m e c2 c3 (by omega)] at HH0; exact HH0
          have h_smid : ¬ s < mid := by omega
          have h_smid' : ¬ (s : Int) < (mid : Int) := by omega
          have h_mide : mid < e := by omega
          have h_mide' : (mid : Int) < (e : Int) := by omega
          have h_xs' : (x : Int) < (s : Int) := by omega
          have h_ey : e < y := by omega
          have h_ey' : (e : Int) < (y : Int) := by omega
          have STV := STU
          have M2 := hide (Mix.refl n F x mid)
          have S2 := hide (srt_join (unhide HH).a1 (unhide HH).a2 (by omega))
          have P2 := hide ((unhide HH).mix.pos hy (unhide hP))
          have C2 := hide (unhide IH mid e y F wr (by omega) (unhide STV).1 h_mide h_ey hy (unhide P2) (srt_out (unhide M2).out (unhide HH).b1 (by omega)) (srt_out (unhide M2).out (unhide HH).b2 (by omega)))
          go_wp2_with fail
          refine (unhide C2).mono ?_
          rintro e9 w9 ⟨F3, ⟨rfl, q1, q2⟩, q3, q4⟩
          have STW := hide (And.intro q1 ((unhide STV).2.trans q2))
          have M3 := hide q3
          have S3 := hide q4
          clear q1 q2 q3 q4
          go_wp2_with fail
          first | go_end0 | refine bodyPost_ret (results_none rfl _ _ _) rfl ?_
          exact ⟨_, ⟨rfl, (unhide STW).1, (unhide STW).2⟩, sym_end (unhide HH) (by omega) (by omega) (unhide M2) (unhide S2) (unhide M3) (unhide S3)⟩

      · have hR1' : ¬ (s : Int) < (m : Int) := by omega
        have STU := HM
        have HH : Hid (Half n F F x y mid s e) := by rw [rot_none F s m e c2 c3 (by omega)] at HH0; exact HH0
        have h_mide : ¬ mid < e := by omega
        have h_mide' : ¬ (mid : Int) < (e : Int) := by omega
        have h_xs : x < s := by omega
        have h_xs' : (x : Int) < (s : Int) := by omega
        by_cases h_smid : s < mid
        · have h_smid' : (s : Int) < (mid : Int) := by omega
          have C1 := hide (unhide IH x s mid F wr (by omega) (unhide STU).1 h_xs h_smid (by omega) ((unhide HH).mix.pos hy (unhide hP)) (unhide HH).a1 (unhide HH).a2)
          go_wp2_with fail
          refine (unhide C1).mono ?_
          rintro e8 w8 ⟨F2, ⟨rfl, q1, q2⟩, q3, q4⟩
          have STV := hide (And.intro q1 ((unhide STU).2.trans q2))
          have M2 := hide q3
          have S2 := hide q4
          have P2 := hide (Mix.pos q3 (by omega) ((unhide HH).mix.pos hy (unhide hP)))
          clear q1 q2 q3 q4
          have STW := STV
          have M3 := hide (Mix.refl n F2 mid y)
          have S3 := hide (srt_join (srt_out (unhide M2).out (unhide HH).b1 (by omega)) (srt_out (unhide M2).out (unhide HH).b2 (by omega)) (by omega))
          go_wp2_with fail
          first | go_end0 | refine bodyPost_ret (results_none rfl _ _ _) rfl ?_
          exact ⟨_, ⟨rfl, (unhide STW).1, (unhide STW).2⟩, sym_end (unhide HH) (by omega) (by omega) (unhide M2) (unhide S2) (unhide M3) (unhide S3)⟩

        · have h_smid' : ¬ (s : Int) < (mid : Int) := by omega
          have STV := STU
          have M2 := hide (Mix.refl n F x mid)
          have S2 := hide (srt_join (unhide HH).a1 (unhide HH).a2 (by omega))
          have P2 := hide ((unhide HH).mix.pos hy (unhide hP))
          have STW := STV
          have M3 := hide (Mix.refl n F mid y)
          have S3 := hide (srt_join (srt_out (unhide M2).out (unhide HH).b1 (by omega)) (srt_out (unhide M2).out (unhide HH).b2 (by omega)) (by omega))
          go_wp2_with fail
          first | go_end0 | refine bodyPost_ret (results_none rfl _ _ _) rfl ?_
          exact ⟨_, ⟨rfl, (unhide STW).1, (unhide STW).2⟩, sym_end (unhide HH) (by omega) (by omega) (unhide M2) (unhide S2) (unhide M3) (unhide S3)⟩

end Go.Proofs.Qxb6002619a
