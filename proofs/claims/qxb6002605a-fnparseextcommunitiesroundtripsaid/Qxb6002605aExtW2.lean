/- the law's walk, some of its ways -/
import Derived.Test.Qxb6002605aExtInv
namespace Go.Proofs.Qxb6002605a
open Go.ChangeShapes Go.WideShapes Go.ChangeAt Go.RowKit
set_option linter.unusedVariables false
set_option linter.unusedSimpArgs false

attribute [local go_sem ↓] ex_load38 ex_store38 ex_build
attribute [local go_sem] setCells_put build53 ld38 st38 blk_drew blk_drewN blk_alloc blk_put size_put len_arr len_att att3 ov_att

set_option maxRecDepth 100000 in
set_option maxHeartbeats 6400000 in
theorem walk_ooa1 (b0 o0 : Nat) (s0 : Option Nat) (n0 c0 : Nat) (f0 : Nat → Int) (b1 o1 : Nat) (s1 : Option Nat) (n1 c1 : Nat) (f1 : Nat → Int) (w : World) (hN0 : Hid (n0 = 0)) (hn : n0 + n1 ≤ 1048576) (hs0 : Hid (0 < n0 → s0 = none)) (hc0 : Hid (∀ i, i < n0 → w.cell? ⟨b0, o0 + i, none⟩ = some (.int .u8 (f0 i)))) (hs1 : Hid (0 < n1 → s1 = none)) (hc1 : Hid (∀ i, i < n1 → w.cell? ⟨b1, o1 + i, none⟩ = some (.int .u8 (f1 i)))) :
    Calls Try.prog 5 #[.slice (some ⟨b0, o0, s0⟩) n0 c0, .slice (some ⟨b1, o1, s1⟩) n1 c1] w fun e w' => e = .returned (.bool true) ∧ Below w.heap.size w w' := by
  have l0 : (n0 : Int) ≤ 1048576 := by omega
  have l1 : (n1 : Int) ≤ 1048576 := by omega
  have l2 : (n0 : Int) + (n1 : Int) ≤ 1048576 := by omega
  have e1 := fun W a n c => run_neq_slice_nil_any (P := Try.prog) W 22 5 a n c 0 0 Try.underlying22
  have e2 := fun W a n c => Lib.run_eql_slice_nil (P := Try.prog) W 38 40 a n c 0 0 Try.underlying38
  have mka := fun W => mk22 n0 (by omega) W
  have mkb := fun W => mk22 n1 (by omega) W
  have Y := hide (fun w => ebytes_yes (some ⟨b0, o0, s0⟩) (some ⟨b1, o1, s1⟩) n0 c0 n1 c1 w hn)
  go_enter Try.func5, Try.ntmps5
  go_wp2_with fail
  refine (unhide Y _).mono ?_
  rintro e w' ⟨rfl, rfl⟩
  go_wp2_with fail
  go_loopw [6] (fun i wr => ∃ k : Nat, k ≤ n0 ∧ i = .int .i64 k ∧ Hid (CInv w' n0 f0 k wr)) (fun i _ => n0 - (intOf i).toNat)
  case atStart => exact ⟨0, Nat.zero_le _, rfl, hide (CInv_start _ _ _)⟩
  case round =>
    obtain ⟨k, hk, rfl, HI⟩ := hrel
    by_cases hlt : k < n0
    · have es0 := unhide hs0 (by omega)
      subst es0
      obtain ⟨⟨g, h1, h2⟩, h3, h4⟩ := unhide HI
      have hcell : wr.cell? ⟨b0, o0 + k, none⟩ = some (.int .u8 (f0 k)) := by
        have := unhide hc0 k hlt
        rw [h3.cell (World.block_lt_of_cell? _ _ this)]; exact this
      have hcv : wr.cell? ⟨w'.heap.size, k, none⟩ = some (.int .u8 (g k)) := by
        rw [blk_cell (by rw [h1, len_arr]; exact hlt), h1]; simp [at_, arr_get n0 g k hlt]
      have hfz : wr.frozen? ⟨w'.heap.size, k, none⟩ = false := blk_frozen (by rw [h1, len_arr]; omega)
      clear h1 h2 h3 h4
      go_wp2_with fail
      go_roundw
      case rel => exact ⟨k + 1, by omega, by go_num, hide (CInv_step _ _ _ _ _ (unhide HI))⟩
      case measure => simp [intOf]; omega
    · have hv1 : blkOf wr w'.heap.size = arr n0 f0 := CInv_end _ _ _ _ _ (unhide HI) (by omega)
      have B1 : Below w'.heap.size w' wr := (unhide HI).2.1
      have z1 : w'.heap.size < wr.heap.size := (unhide HI).2.2
      clear HI
      obtain ⟨w1, hw1⟩ : ∃ x, x = wr := ⟨_, rfl⟩
      subst hw1
      go_wp2_with fail
      go_loopw [8] (fun i wr => ∃ k : Nat, k ≤ n1 ∧ i = .int .i64 k ∧ Hid (CInv w1 n1 f1 k wr)) (fun i _ => n1 - (intOf i).toNat)
      case atStart => exact ⟨0, Nat.zero_le _, rfl, hide (CInv_start _ _ _)⟩
      case round =>
        obtain ⟨kb, hkb, rfl, HI⟩ := hrel
        by_cases hltb : kb < n1
        · have es1 := unhide hs1 (by omega)
          subst es1
          obtain ⟨⟨g, h1, h2⟩, h3, h4⟩ := unhide HI
          have hcell : wr.cell? ⟨b1, o1 + kb, none⟩ = some (.int .u8 (f1 kb)) := by
            have := unhide hc1 kb hltb
            have hbl := World.block_lt_of_cell? _ _ this
            rw [h3.cell (p := ⟨b1, o1 + kb, none⟩) (by have := B1.size; omega), B1.cell (p := ⟨b1, o1 + kb, none⟩) hbl]; exact this
          have hcv : wr.cell? ⟨w1.heap.size, kb, none⟩ = some (.int .u8 (g kb)) := by
            rw [blk_cell (by rw [h1, len_arr]; exact hltb), h1]; simp [at_, arr_get n1 g kb hltb]
          have hfz : wr.frozen? ⟨w1.heap.size, kb, none⟩ = false := blk_frozen (by rw [h1, len_arr]; omega)
          clear h1 h2 h3 h4
          go_wp2_with fail
          go_roundw
          case rel => exact ⟨kb + 1, by omega, by go_num, hide (CInv_step _ _ _ _ _ (unhide HI))⟩
          case measure => simp [intOf]; omega
        · have hp2 : blkOf wr w1.heap.size = arr n1 f1 := CInv_end _ _ _ _ _ (unhide HI) (by omega)
          have B2 : Below w1.heap.size w1 wr := (unhide HI).2.1
          have z2 : w1.heap.size < wr.heap.size := (unhide HI).2.2
          have hv2 : blkOf wr w'.heap.size = arr n0 f0 := by rw [blk_below B2 z1]; exact hv1
          have BB2 : Below w'.heap.size w' wr := B1.trans (B2.mono (by omega))
          clear HI B1 B2 hv1
          generalize hvb : w'.heap.size = vb at *
          generalize hpb : w1.heap.size = pb at *
          have Hvb := hide hvb
          have Hpb := hide hpb
          clear hvb hpb
          obtain ⟨w2, hw2⟩ : ∃ x, x = wr := ⟨_, rfl⟩
          subst hw2
          have q1 : (n1 : Int) / 8 = ((n1 / 8 : Nat) : Int) := by omega
          have hm1 : n1 / 8 * 8 ≤ n1 := by omega
          have m1l : n1 / 8 ≤ 1048576 := by omega
          generalize n1 / 8 = m1 at *
          have mk := fun W => mk38 m1 m1 (Nat.le_refl _) m1l W
          go_wp2_with fail
          go_loopw [10] (fun i wr => ∃ k : Nat, k ≤ m1 ∧ i = .int .i64 k ∧ Hid (EInv w2 m1 f1 (k * 8) wr)) (fun i _ => m1 - (intOf i).toNat)
          case atStart => exact ⟨0, Nat.zero_le _, rfl, hide (by rw [Nat.zero_mul]; exact EInv_start _ _ _)⟩
          case round =>
            obtain ⟨kc, hkc, rfl, HI⟩ := hrel
            have m1i : (m1 : Int) ≤ 1048576 := by omega
            by_cases hltc : kc < m1
            · go_wp2_with fail
              go_loopw [11] (fun j wr => ∃ l : Nat, l ≤ 8 ∧ j = .int .i64 l ∧ Hid (EInv w2 m1 f1 (kc * 8 + l) wr)) (fun j _ => 8 - (intOf j).toNat)
              case atStart => exact ⟨0, Nat.zero_le _, rfl, HI⟩
              case round =>
                obtain ⟨l, hl, rfl, HJ⟩ := hrel
                by_cases hlt2 : l < 8
                · obtain ⟨⟨g, h1, h2⟩, h3, h4⟩ := unhide HJ
                  have x1 : (8 : Int) * (kc : Int) + (l : Int) < (n1 : Int) := by omega
                  have x2 : (0 : Int) ≤ (8 : Int) * (kc : Int) + (l : Int) := by omega
                  have x3 : (kc : Int) < (m1 : Int) := by omega
                  have x4 : (l : Int) < 8 := by omega
                  have x5 : ((8 : Int) * (kc : Int) + (l : Int)).toNat = kc * 8 + l := by omega
                  have x6 : kc * 8 + l < n1 := by omega
                  have hcell : wr.cell? ⟨pb, kc * 8 + l, none⟩ = some (.int .u8 (f1 (kc * 8 + l))) := by
                    have hpr : blkOf wr pb = arr n1 f1 := by rw [blk_below h3 z2]; exact hp2
                    rw [blk_cell (by rw [hpr, len_arr]; exact x6), hpr]; simp [at_, arr_get n1 f1 _ x6]
                  have hcv : wr.cell? ⟨w2.heap.size, kc * 8 + l, none⟩ = some (.int .u8 (g (kc * 8 + l))) := by
                    rw [blk_cell (by rw [h1, len_arr]; omega), h1]; simp [at_, arr_get (m1 * 8) g (kc * 8 + l) (by omega)]
                  have hfz : wr.frozen? ⟨w2.heap.size, kc * 8 + l, none⟩ = false := blk_frozen (by rw [h1, len_arr]; omega)
                  clear h1 h2 h3 h4
                  go_wp2_with fail
                  go_region
                  go_wp2_with fail
                  go_roundw
                  case rel => exact ⟨l + 1, by omega, by go_num, hide (EInv_drew (EInv_step _ _ _ _ _ (unhide HJ)))⟩
                  case measure => simp [intOf]; omega
                · have hl8 : l = 8 := by omega
                  subst hl8
                  go_wp2_with fail
                  go_roundw
                  case rel => exact ⟨kc + 1, by omega, by go_num, hide (by rw [Nat.succ_mul]; exact unhide HJ)⟩
                  case measure => simp [intOf]; omega
            · have hb3 : blkOf wr w2.heap.size = arr (m1 * 8) f1 := EInv_end _ _ _ _ _ (unhide HI) (by omega)
              have B3 : Below w2.heap.size w2 wr := (unhide HI).2.1
              have z3 : w2.heap.size < wr.heap.size := (unhide HI).2.2
              have hv3 : blkOf wr vb = arr n0 f0 := by rw [blk_below B3 (by omega)]; exact hv2
              have hp3 : blkOf wr pb = arr n1 f1 := by rw [blk_below B3 z2]; exact hp2
              have BB3 : Below vb w' wr := BB2.trans (B3.mono (by omega))
              clear HI B3 hp2 BB2 hv2
              generalize hbb : w2.heap.size = bb at *
              have Hbb := hide hbb
              clear hbb
              obtain ⟨w3, hw3⟩ : ∃ x, x = wr := ⟨_, rfl⟩
              subst hw3
              have d1 : ¬ vb = w3.heap.size := by omega
              have d2 : ¬ pb = w3.heap.size := by omega
              have d3 : ¬ bb = w3.heap.size := by omega
              go_wp2_with fail
              refine (zparse_no w3.heap.size (some ⟨vb, 0, none⟩) n0 n0 _ (by omega) (Or.inl (unhide hN0))).mono ?_
              rintro e w4 ⟨rfl, hw4⟩
              have ha4 : blkOf w4 w3.heap.size = attL (.slice (some ⟨bb, 0, none⟩) m1 m1) := by rw [hw4]; go_simp
              have hp4 : blkOf w4 pb = arr n1 f1 := by rw [hw4]; go_simp
              have hb4 : blkOf w4 bb = arr (m1 * 8) f1 := by rw [hw4]; go_simp
              have BB4 : Below vb w' w4 := by rw [hw4]; exact BB3.alloc (by omega) _
              clear hw4 BB3
              have c0' : ((n0 : Int) == 0) = true := by have := unhide hN0; simp; omega
              have C3 := hide (show True from trivial)
              have mm : (m1 : Int) ≤ 1048576 := by omega
              go_wp2_with fail
              go_loopw [14] (fun i wr => ∃ k : Nat, k ≤ m1 ∧ i = .int .i64 k ∧ Hid (∃ n, wr = w4.drewN n)) (fun i _ => m1 - (intOf i).toNat)
              case atStart => exact ⟨0, Nat.zero_le _, rfl, hide ⟨0, rfl⟩⟩
              case round =>
                obtain ⟨kd, hkd, rfl, HWd⟩ := hrel
                obtain ⟨nd, rfl⟩ := unhide HWd
                by_cases hltd : kd < m1
                · have x3 : (kd : Int) < (m1 : Int) := by first | omega | (have := unhide C3; omega)
                  go_wp2_with fail
                  go_loopw [15] (fun j wr => ∃ l : Nat, l ≤ 8 ∧ j = .int .i64 l ∧ Hid (∃ n, wr = w4.drewN n)) (fun j _ => 8 - (intOf j).toNat)
                  case atStart => exact ⟨0, Nat.zero_le _, rfl, hide ⟨_, rfl⟩⟩
                  case round =>
                    obtain ⟨ld, hld, rfl, HVd⟩ := hrel
                    obtain ⟨qd, rfl⟩ := unhide HVd
                    by_cases hlud : ld < 8
                    · have x1 : (8 : Int) * (kd : Int) + (ld : Int) < (n1 : Int) := by first | omega | (have := unhide C3; omega)
                      have x2 : (0 : Int) ≤ (8 : Int) * (kd : Int) + (ld : Int) := by first | omega | (have := unhide C3; omega)
                      have x4 : (ld : Int) < 8 := by first | omega | (have := unhide C3; omega)
                      have x5 : ((8 : Int) * (kd : Int) + (ld : Int)).toNat = kd * 8 + ld := by first | omega | (have := unhide C3; omega)
                      have x6 : kd * 8 + ld < n1 := by first | omega | (have := unhide C3; omega)
                      have hca : w4.cell? ⟨bb, kd * 8 + ld, none⟩ = some (.int .u8 (f1 (kd * 8 + ld))) := by
                        rw [blk_cell (by rw [hb4, len_arr]; omega), hb4]; simp [at_, arr_get (m1 * 8) f1 (kd * 8 + ld) (by first | omega | (have := unhide C3; omega))]
                      have hcb : w4.cell? ⟨pb, kd * 8 + ld, none⟩ = some (.int .u8 (f1 (kd * 8 + ld))) := by
                        rw [blk_cell (by rw [hp4, len_arr]; omega), hp4]; simp [at_, arr_get (n1) f1 (kd * 8 + ld) (by first | omega | (have := unhide C3; omega))]
                      go_wp2_with fail
                      go_quiet (fail)
                      go_wp2_with fail
                      go_roundw
                      case rel => exact ⟨ld + 1, by first | omega | (have := unhide C3; omega), by go_num, hide ⟨_, rfl⟩⟩
                      case measure => simp [intOf]; omega
                    · go_wp2_with fail
                      go_roundw
                      case rel => exact ⟨kd + 1, by first | omega | (have := unhide C3; omega), by go_num, hide ⟨_, rfl⟩⟩
                      case measure => simp [intOf]; omega
                · 
                  go_wp2_with fail
                  go_loopw [16] (fun i wr => ∃ k : Nat, k ≤ m1 ∧ i = .int .i64 k ∧ Hid (∃ n, wr = w4.drewN n)) (fun i _ => m1 - (intOf i).toNat)
                  case atStart => exact ⟨0, Nat.zero_le _, rfl, hide ⟨_, rfl⟩⟩
                  case round =>
                    obtain ⟨kg, hkg, rfl, HWg⟩ := hrel
                    obtain ⟨ng, rfl⟩ := unhide HWg
                    by_cases hltg : kg < m1
                    · have x3 : (kg : Int) < (m1 : Int) := by first | omega | (have := unhide C3; omega)
                      go_wp2_with fail
                      go_loopw [17] (fun j wr => ∃ l : Nat, l ≤ 8 ∧ j = .int .i64 l ∧ Hid (∃ n, wr = w4.drewN n)) (fun j _ => 8 - (intOf j).toNat)
                      case atStart => exact ⟨0, Nat.zero_le _, rfl, hide ⟨_, rfl⟩⟩
                      case round =>
                        obtain ⟨lg, hlg, rfl, HVg⟩ := hrel
                        obtain ⟨qg, rfl⟩ := unhide HVg
                        by_cases hlug : lg < 8
                        · have x1 : (8 : Int) * (kg : Int) + (lg : Int) < (n1 : Int) := by first | omega | (have := unhide C3; omega)
                          have x2 : (0 : Int) ≤ (8 : Int) * (kg : Int) + (lg : Int) := by first | omega | (have := unhide C3; omega)
                          have x4 : (lg : Int) < 8 := by first | omega | (have := unhide C3; omega)
                          have x5 : ((8 : Int) * (kg : Int) + (lg : Int)).toNat = kg * 8 + lg := by first | omega | (have := unhide C3; omega)
                          have x6 : kg * 8 + lg < n1 := by first | omega | (have := unhide C3; omega)
                          have hca : w4.cell? ⟨bb, kg * 8 + lg, none⟩ = some (.int .u8 (f1 (kg * 8 + lg))) := by
                            rw [blk_cell (by rw [hb4, len_arr]; omega), hb4]; simp [at_, arr_get (m1 * 8) f1 (kg * 8 + lg) (by first | omega | (have := unhide C3; omega))]
                          have hcb : w4.cell? ⟨pb, kg * 8 + lg, none⟩ = some (.int .u8 (f1 (kg * 8 + lg))) := by
                            rw [blk_cell (by rw [hp4, len_arr]; omega), hp4]; simp [at_, arr_get (n1) f1 (kg * 8 + lg) (by first | omega | (have := unhide C3; omega))]
                          go_wp2_with fail
                          go_quiet (fail)
                          go_wp2_with fail
                          go_roundw
                          case rel => exact ⟨lg + 1, by first | omega | (have := unhide C3; omega), by go_num, hide ⟨_, rfl⟩⟩
                          case measure => simp [intOf]; omega
                        · go_wp2_with fail
                          go_roundw
                          case rel => exact ⟨kg + 1, by first | omega | (have := unhide C3; omega), by go_num, hide ⟨_, rfl⟩⟩
                          case measure => simp [intOf]; omega
                    · 
                      go_wp2_with fail
                      go_ret
                      exact ⟨rfl, by rw [unhide Hvb]; exact below_drewN BB4 _⟩

set_option maxRecDepth 100000 in
set_option maxHeartbeats 6400000 in
theorem walk_ooa2 (b0 o0 : Nat) (s0 : Option Nat) (n0 c0 : Nat) (f0 : Nat → Int) (b1 o1 : Nat) (s1 : Option Nat) (n1 c1 : Nat) (f1 : Nat → Int) (w : World) (hN0 : Hid (¬ n0 = 0 ∧ ¬ n0 % 8 = 0)) (hn : n0 + n1 ≤ 1048576) (hs0 : Hid (0 < n0 → s0 = none)) (hc0 : Hid (∀ i, i < n0 → w.cell? ⟨b0, o0 + i, none⟩ = some (.int .u8 (f0 i)))) (hs1 : Hid (0 < n1 → s1 = none)) (hc1 : Hid (∀ i, i < n1 → w.cell? ⟨b1, o1 + i, none⟩ = some (.int .u8 (f1 i)))) :
    Calls Try.prog 5 #[.slice (some ⟨b0, o0, s0⟩) n0 c0, .slice (some ⟨b1, o1, s1⟩) n1 c1] w fun e w' => e = .returned (.bool true) ∧ Below w.heap.size w w' := by
  have l0 : (n0 : Int) ≤ 1048576 := by omega
  have l1 : (n1 : Int) ≤ 1048576 := by omega
  have l2 : (n0 : Int) + (n1 : Int) ≤ 1048576 := by omega
  have e1 := fun W a n c => run_neq_slice_nil_any (P := Try.prog) W 22 5 a n c 0 0 Try.underlying22
  have e2 := fun W a n c => Lib.run_eql_slice_nil (P := Try.prog) W 38 40 a n c 0 0 Try.underlying38
  have mka := fun W => mk22 n0 (by omega) W
  have mkb := fun W => mk22 n1 (by omega) W
  have Y := hide (fun w => ebytes_yes (some ⟨b0, o0, s0⟩) (some ⟨b1, o1, s1⟩) n0 c0 n1 c1 w hn)
  go_enter Try.func5, Try.ntmps5
  go_wp2_with fail
  refine (unhide Y _).mono ?_
  rintro e w' ⟨rfl, rfl⟩
  go_wp2_with fail
  go_loopw [6] (fun i wr => ∃ k : Nat, k ≤ n0 ∧ i = .int .i64 k ∧ Hid (CInv w' n0 f0 k wr)) (fun i _ => n0 - (intOf i).toNat)
  case atStart => exact ⟨0, Nat.zero_le _, rfl, hide (CInv_start _ _ _)⟩
  case round =>
    obtain ⟨k, hk, rfl, HI⟩ := hrel
    by_cases hlt : k < n0
    · have es0 := unhide hs0 (by omega)
      subst es0
      obtain ⟨⟨g, h1, h2⟩, h3, h4⟩ := unhide HI
      have hcell : wr.cell? ⟨b0, o0 + k, none⟩ = some (.int .u8 (f0 k)) := by
        have := unhide hc0 k hlt
        rw [h3.cell (World.block_lt_of_cell? _ _ this)]; exact this
      have hcv : wr.cell? ⟨w'.heap.size, k, none⟩ = some (.int .u8 (g k)) := by
        rw [blk_cell (by rw [h1, len_arr]; exact hlt), h1]; simp [at_, arr_get n0 g k hlt]
      have hfz : wr.frozen? ⟨w'.heap.size, k, none⟩ = false := blk_frozen (by rw [h1, len_arr]; omega)
      clear h1 h2 h3 h4
      go_wp2_with fail
      go_roundw
      case rel => exact ⟨k + 1, by omega, by go_num, hide (CInv_step _ _ _ _ _ (unhide HI))⟩
      case measure => simp [intOf]; omega
    · have hv1 : blkOf wr w'.heap.size = arr n0 f0 := CInv_end _ _ _ _ _ (unhide HI) (by omega)
      have B1 : Below w'.heap.size w' wr := (unhide HI).2.1
      have z1 : w'.heap.size < wr.heap.size := (unhide HI).2.2
      clear HI
      obtain ⟨w1, hw1⟩ : ∃ x, x = wr := ⟨_, rfl⟩
      subst hw1
      go_wp2_with fail
      go_loopw [8] (fun i wr => ∃ k : Nat, k ≤ n1 ∧ i = .int .i64 k ∧ Hid (CInv w1 n1 f1 k wr)) (fun i _ => n1 - (intOf i).toNat)
      case atStart => exact ⟨0, Nat.zero_le _, rfl, hide (CInv_start _ _ _)⟩
      case round =>
        obtain ⟨kb, hkb, rfl, HI⟩ := hrel
        by_cases hltb : kb < n1
        · have es1 := unhide hs1 (by omega)
          subst es1
          obtain ⟨⟨g, h1, h2⟩, h3, h4⟩ := unhide HI
          have hcell : wr.cell? ⟨b1, o1 + kb, none⟩ = some (.int .u8 (f1 kb)) := by
            have := unhide hc1 kb hltb
            have hbl := World.block_lt_of_cell? _ _ this
            rw [h3.cell (p := ⟨b1, o1 + kb, none⟩) (by have := B1.size; omega), B1.cell (p := ⟨b1, o1 + kb, none⟩) hbl]; exact this
          have hcv : wr.cell? ⟨w1.heap.size, kb, none⟩ = some (.int .u8 (g kb)) := by
            rw [blk_cell (by rw [h1, len_arr]; exact hltb), h1]; simp [at_, arr_get n1 g kb hltb]
          have hfz : wr.frozen? ⟨w1.heap.size, kb, none⟩ = false := blk_frozen (by rw [h1, len_arr]; omega)
          clear h1 h2 h3 h4
          go_wp2_with fail
          go_roundw
          case rel => exact ⟨kb + 1, by omega, by go_num, hide (CInv_step _ _ _ _ _ (unhide HI))⟩
          case measure => simp [intOf]; omega
        · have hp2 : blkOf wr w1.heap.size = arr n1 f1 := CInv_end _ _ _ _ _ (unhide HI) (by omega)
          have B2 : Below w1.heap.size w1 wr := (unhide HI).2.1
          have z2 : w1.heap.size < wr.heap.size := (unhide HI).2.2
          have hv2 : blkOf wr w'.heap.size = arr n0 f0 := by rw [blk_below B2 z1]; exact hv1
          have BB2 : Below w'.heap.size w' wr := B1.trans (B2.mono (by omega))
          clear HI B1 B2 hv1
          generalize hvb : w'.heap.size = vb at *
          generalize hpb : w1.heap.size = pb at *
          have Hvb := hide hvb
          have Hpb := hide hpb
          clear hvb hpb
          obtain ⟨w2, hw2⟩ : ∃ x, x = wr := ⟨_, rfl⟩
          subst hw2
          have q1 : (n1 : Int) / 8 = ((n1 / 8 : Nat) : Int) := by omega
          have hm1 : n1 / 8 * 8 ≤ n1 := by omega
          have m1l : n1 / 8 ≤ 1048576 := by omega
          generalize n1 / 8 = m1 at *
          have mk := fun W => mk38 m1 m1 (Nat.le_refl _) m1l W
          go_wp2_with fail
          go_loopw [10] (fun i wr => ∃ k : Nat, k ≤ m1 ∧ i = .int .i64 k ∧ Hid (EInv w2 m1 f1 (k * 8) wr)) (fun i _ => m1 - (intOf i).toNat)
          case atStart => exact ⟨0, Nat.zero_le _, rfl, hide (by rw [Nat.zero_mul]; exact EInv_start _ _ _)⟩
          case round =>
            obtain ⟨kc, hkc, rfl, HI⟩ := hrel
            have m1i : (m1 : Int) ≤ 1048576 := by omega
            by_cases hltc : kc < m1
            · go_wp2_with fail
              go_loopw [11] (fun j wr => ∃ l : Nat, l ≤ 8 ∧ j = .int .i64 l ∧ Hid (EInv w2 m1 f1 (kc * 8 + l) wr)) (fun j _ => 8 - (intOf j).toNat)
              case atStart => exact ⟨0, Nat.zero_le _, rfl, HI⟩
              case round =>
                obtain ⟨l, hl, rfl, HJ⟩ := hrel
                by_cases hlt2 : l < 8
                · obtain ⟨⟨g, h1, h2⟩, h3, h4⟩ := unhide HJ
                  have x1 : (8 : Int) * (kc : Int) + (l : Int) < (n1 : Int) := by omega
                  have x2 : (0 : Int) ≤ (8 : Int) * (kc : Int) + (l : Int) := by omega
                  have x3 : (kc : Int) < (m1 : Int) := by omega
                  have x4 : (l : Int) < 8 := by omega
                  have x5 : ((8 : Int) * (kc : Int) + (l : Int)).toNat = kc * 8 + l := by omega
                  have x6 : kc * 8 + l < n1 := by omega
                  have hcell : wr.cell? ⟨pb, kc * 8 + l, none⟩ = some (.int .u8 (f1 (kc * 8 + l))) := by
                    have hpr : blkOf wr pb = arr n1 f1 := by rw [blk_below h3 z2]; exact hp2
                    rw [blk_cell (by rw [hpr, len_arr]; exact x6), hpr]; simp [at_, arr_get n1 f1 _ x6]
                  have hcv : wr.cell? ⟨w2.heap.size, kc * 8 + l, none⟩ = some (.int .u8 (g (kc * 8 + l))) := by
                    rw [blk_cell (by rw [h1, len_arr]; omega), h1]; simp [at_, arr_get (m1 * 8) g (kc * 8 + l) (by omega)]
                  have hfz : wr.frozen? ⟨w2.heap.size, kc * 8 + l, none⟩ = false := blk_frozen (by rw [h1, len_arr]; omega)
                  clear h1 h2 h3 h4
                  go_wp2_with fail
                  go_region
                  go_wp2_with fail
                  go_roundw
                  case rel => exact ⟨l + 1, by omega, by go_num, hide (EInv_drew (EInv_step _ _ _ _ _ (unhide HJ)))⟩
                  case measure => simp [intOf]; omega
                · have hl8 : l = 8 := by omega
                  subst hl8
                  go_wp2_with fail
                  go_roundw
                  case rel => exact ⟨kc + 1, by omega, by go_num, hide (by rw [Nat.succ_mul]; exact unhide HJ)⟩
                  case measure => simp [intOf]; omega
            · have hb3 : blkOf wr w2.heap.size = arr (m1 * 8) f1 := EInv_end _ _ _ _ _ (unhide HI) (by omega)
              have B3 : Below w2.heap.size w2 wr := (unhide HI).2.1
              have z3 : w2.heap.size < wr.heap.size := (unhide HI).2.2
              have hv3 : blkOf wr vb = arr n0 f0 := by rw [blk_below B3 (by omega)]; exact hv2
              have hp3 : blkOf wr pb = arr n1 f1 := by rw [blk_below B3 z2]; exact hp2
              have BB3 : Below vb w' wr := BB2.trans (B3.mono (by omega))
              clear HI B3 hp2 BB2 hv2
              generalize hbb : w2.heap.size = bb at *
              have Hbb := hide hbb
              clear hbb
              obtain ⟨w3, hw3⟩ : ∃ x, x = wr := ⟨_, rfl⟩
              subst hw3
              have d1 : ¬ vb = w3.heap.size := by omega
              have d2 : ¬ pb = w3.heap.size := by omega
              have d3 : ¬ bb = w3.heap.size := by omega
              go_wp2_with fail
              refine (zparse_no w3.heap.size (some ⟨vb, 0, none⟩) n0 n0 _ (by omega) (Or.inr (unhide hN0).2)).mono ?_
              rintro e w4 ⟨rfl, hw4⟩
              have ha4 : blkOf w4 w3.heap.size = attL (.slice (some ⟨bb, 0, none⟩) m1 m1) := by rw [hw4]; go_simp
              have hp4 : blkOf w4 pb = arr n1 f1 := by rw [hw4]; go_simp
              have hb4 : blkOf w4 bb = arr (m1 * 8) f1 := by rw [hw4]; go_simp
              have BB4 : Below vb w' w4 := by rw [hw4]; exact BB3.alloc (by omega) _
              clear hw4 BB3
              have c0' : ((n0 : Int) == 0) = false := by have := unhide hN0; simp; omega
              have c1' : (((n0 : Int) % 8) != 0) = true := by have := unhide hN0; simp; omega
              have C3 := hide (show True from trivial)
              have mm : (m1 : Int) ≤ 1048576 := by omega
              go_wp2_with fail
              go_loopw [14] (fun i wr => ∃ k : Nat, k ≤ m1 ∧ i = .int .i64 k ∧ Hid (∃ n, wr = w4.drewN n)) (fun i _ => m1 - (intOf i).toNat)
              case atStart => exact ⟨0, Nat.zero_le _, rfl, hide ⟨0, rfl⟩⟩
              case round =>
                obtain ⟨kd, hkd, rfl, HWd⟩ := hrel
                obtain ⟨nd, rfl⟩ := unhide HWd
                by_cases hltd : kd < m1
                · have x3 : (kd : Int) < (m1 : Int) := by first | omega | (have := unhide C3; omega)
                  go_wp2_with fail
                  go_loopw [15] (fun j wr => ∃ l : Nat, l ≤ 8 ∧ j = .int .i64 l ∧ Hid (∃ n, wr = w4.drewN n)) (fun j _ => 8 - (intOf j).toNat)
                  case atStart => exact ⟨0, Nat.zero_le _, rfl, hide ⟨_, rfl⟩⟩
                  case round =>
                    obtain ⟨ld, hld, rfl, HVd⟩ := hrel
                    obtain ⟨qd, rfl⟩ := unhide HVd
                    by_cases hlud : ld < 8
                    · have x1 : (8 : Int) * (kd : Int) + (ld : Int) < (n1 : Int) := by first | omega | (have := unhide C3; omega)
                      have x2 : (0 : Int) ≤ (8 : Int) * (kd : Int) + (ld : Int) := by first | omega | (have := unhide C3; omega)
                      have x4 : (ld : Int) < 8 := by first | omega | (have := unhide C3; omega)
                      have x5 : ((8 : Int) * (kd : Int) + (ld : Int)).toNat = kd * 8 + ld := by first | omega | (have := unhide C3; omega)
                      have x6 : kd * 8 + ld < n1 := by first | omega | (have := unhide C3; omega)
                      have hca : w4.cell? ⟨bb, kd * 8 + ld, none⟩ = some (.int .u8 (f1 (kd * 8 + ld))) := by
                        rw [blk_cell (by rw [hb4, len_arr]; omega), hb4]; simp [at_, arr_get (m1 * 8) f1 (kd * 8 + ld) (by first | omega | (have := unhide C3; omega))]
                      have hcb : w4.cell? ⟨pb, kd * 8 + ld, none⟩ = some (.int .u8 (f1 (kd * 8 + ld))) := by
                        rw [blk_cell (by rw [hp4, len_arr]; omega), hp4]; simp [at_, arr_get (n1) f1 (kd * 8 + ld) (by first | omega | (have := unhide C3; omega))]
                      go_wp2_with fail
                      go_quiet (fail)
                      go_wp2_with fail
                      go_roundw
                      case rel => exact ⟨ld + 1, by first | omega | (have := unhide C3; omega), by go_num, hide ⟨_, rfl⟩⟩
                      case measure => simp [intOf]; omega
                    · go_wp2_with fail
                      go_roundw
                      case rel => exact ⟨kd + 1, by first | omega | (have := unhide C3; omega), by go_num, hide ⟨_, rfl⟩⟩
                      case measure => simp [intOf]; omega
                · 
                  go_wp2_with fail
                  go_loopw [16] (fun i wr => ∃ k : Nat, k ≤ m1 ∧ i = .int .i64 k ∧ Hid (∃ n, wr = w4.drewN n)) (fun i _ => m1 - (intOf i).toNat)
                  case atStart => exact ⟨0, Nat.zero_le _, rfl, hide ⟨_, rfl⟩⟩
                  case round =>
                    obtain ⟨kg, hkg, rfl, HWg⟩ := hrel
                    obtain ⟨ng, rfl⟩ := unhide HWg
                    by_cases hltg : kg < m1
                    · have x3 : (kg : Int) < (m1 : Int) := by first | omega | (have := unhide C3; omega)
                      go_wp2_with fail
                      go_loopw [17] (fun j wr => ∃ l : Nat, l ≤ 8 ∧ j = .int .i64 l ∧ Hid (∃ n, wr = w4.drewN n)) (fun j _ => 8 - (intOf j).toNat)
                      case atStart => exact ⟨0, Nat.zero_le _, rfl, hide ⟨_, rfl⟩⟩
                      case round =>
                        obtain ⟨lg, hlg, rfl, HVg⟩ := hrel
                        obtain ⟨qg, rfl⟩ := unhide HVg
                        by_cases hlug : lg < 8
                        · have x1 : (8 : Int) * (kg : Int) + (lg : Int) < (n1 : Int) := by first | omega | (have := unhide C3; omega)
                          have x2 : (0 : Int) ≤ (8 : Int) * (kg : Int) + (lg : Int) := by first | omega | (have := unhide C3; omega)
                          have x4 : (lg : Int) < 8 := by first | omega | (have := unhide C3; omega)
                          have x5 : ((8 : Int) * (kg : Int) + (lg : Int)).toNat = kg * 8 + lg := by first | omega | (have := unhide C3; omega)
                          have x6 : kg * 8 + lg < n1 := by first | omega | (have := unhide C3; omega)
                          have hca : w4.cell? ⟨bb, kg * 8 + lg, none⟩ = some (.int .u8 (f1 (kg * 8 + lg))) := by
                            rw [blk_cell (by rw [hb4, len_arr]; omega), hb4]; simp [at_, arr_get (m1 * 8) f1 (kg * 8 + lg) (by first | omega | (have := unhide C3; omega))]
                          have hcb : w4.cell? ⟨pb, kg * 8 + lg, none⟩ = some (.int .u8 (f1 (kg * 8 + lg))) := by
                            rw [blk_cell (by rw [hp4, len_arr]; omega), hp4]; simp [at_, arr_get (n1) f1 (kg * 8 + lg) (by first | omega | (have := unhide C3; omega))]
                          go_wp2_with fail
                          go_quiet (fail)
                          go_wp2_with fail
                          go_roundw
                          case rel => exact ⟨lg + 1, by first | omega | (have := unhide C3; omega), by go_num, hide ⟨_, rfl⟩⟩
                          case measure => simp [intOf]; omega
                        · go_wp2_with fail
                          go_roundw
                          case rel => exact ⟨kg + 1, by first | omega | (have := unhide C3; omega), by go_num, hide ⟨_, rfl⟩⟩
                          case measure => simp [intOf]; omega
                    · 
                      go_wp2_with fail
                      go_ret
                      exact ⟨rfl, by rw [unhide Hvb]; exact below_drewN BB4 _⟩

end Go.Proofs.Qxb6002605a
