/- the law's walk, some of its ways -/
import Derived.Test.Qxb6002605aExtInv
namespace Go.Proofs.Qxb6002605a
open Go.ChangeShapes Go.WideShapes Go.ChangeAt Go.RowKit
set_option linter.unusedVariables false
set_option linter.unusedSimpArgs false

attribute [local go_sem ↓] ex_load38 ex_store38 ex_build
attribute [local go_sem] setCells_put build53 ld38 st38 blk_drew blk_drewN blk_alloc blk_put size_put len_arr len_att att3 ov_att

set_option maxRecDepth 100000 in
set_option maxHeartbeats 6400000 in
theorem walk_onb (b0 o0 : Nat) (s0 : Option Nat) (n0 c0 : Nat) (f0 : Nat → Int) (w : World) (m0 : Nat) (hm0 : 0 < m0) (hN0 : Hid (n0 = 8 * m0)) (hn : n0 + 0 ≤ 1048576) (hs0 : Hid (0 < n0 → s0 = none)) (hc0 : Hid (∀ i, i < n0 → w.cell? ⟨b0, o0 + i, none⟩ = some (.int .u8 (f0 i)))) :
    Calls Try.prog 5 #[.slice (some ⟨b0, o0, s0⟩) n0 c0, .slice none 0 0] w fun e w' => e = .returned (.bool true) ∧ Below w.heap.size w w' := by
  have l0 : (n0 : Int) ≤ 1048576 := by omega
  have e1 := fun W a n c => run_neq_slice_nil_any (P := Try.prog) W 22 5 a n c 0 0 Try.underlying22
  have e2 := fun W a n c => Lib.run_eql_slice_nil (P := Try.prog) W 38 40 a n c 0 0 Try.underlying38
  have mka := fun W => mk22 n0 (by omega) W
  have Y := hide (fun w => ebytes_yes (some ⟨b0, o0, s0⟩) none n0 c0 0 0 w hn)
  go_enter Try.func5, Try.ntmps5
  go_wp2_with fail
  refine (unhide Y _).mono ?_
  rintro e w' ⟨rfl, rfl⟩
  go_wp2_with fail
  go_loopw [6] (fun i wr => ∃ k : Nat, k ≤ n0 ∧ i = .int .i64 k ∧ Hid (CInv w' n0 f0 k wr)) (fun i _ => n0 - (intOf i).toNat)
  case atStart => exact ⟨0, Nat.zero_le _, rfl, hide (CInv_start _ _ _)⟩
  case round =>
    obtain ⟨k, hk, rfl, HI⟩ := hrel
    by_cases hlt : k < n0
    · have es0 := unhide hs0 (by omega)
      subst es0
      obtain ⟨⟨g, h1, h2⟩, h3, h4⟩ := unhide HI
      have hcell : wr.cell? ⟨b0, o0 + k, none⟩ = some (.int .u8 (f0 k)) := by
        have := unhide hc0 k hlt
        rw [h3.cell (World.block_lt_of_cell? _ _ this)]; exact this
      have hcv : wr.cell? ⟨w'.heap.size, k, none⟩ = some (.int .u8 (g k)) := by
        rw [blk_cell (by rw [h1, len_arr]; exact hlt), h1]; simp [at_, arr_get n0 g k hlt]
      have hfz : wr.frozen? ⟨w'.heap.size, k, none⟩ = false := blk_frozen (by rw [h1, len_arr]; omega)
      clear h1 h2 h3 h4
      go_wp2_with fail
      go_roundw
      case rel => exact ⟨k + 1, by omega, by go_num, hide (CInv_step _ _ _ _ _ (unhide HI))⟩
      case measure => simp [intOf]; omega
    · have hv1 : blkOf wr w'.heap.size = arr n0 f0 := CInv_end _ _ _ _ _ (unhide HI) (by omega)
      have B1 : Below w'.heap.size w' wr := (unhide HI).2.1
      have z1 : w'.heap.size < wr.heap.size := (unhide HI).2.2
      clear HI
      obtain ⟨w1, hw1⟩ : ∃ x, x = wr := ⟨_, rfl⟩
      subst hw1
      generalize hvb : w'.heap.size = vb at *
      have Hvb := hide hvb
      clear hvb
      obtain ⟨w3, hw3⟩ : ∃ x, x = w1 := ⟨_, rfl⟩
      subst hw3
      have hv3 : blkOf w3 vb = arr n0 f0 := hv1
      have BB3 : Below vb w' w3 := B1
      have zz : vb < w3.heap.size := z1
      clear B1 z1 hv1
      have d1 : ¬ vb = w3.heap.size := by omega
      go_wp2_with fail
      refine (zparse_ok w3.heap.size vb m0 n0 f0 _ _ (unhide hN0) hm0 (by omega) (by go_simp) (by go_simp; rfl) (by omega)).mono ?_
      rintro e w4 ⟨rfl, nb, hn4, ha4, z4, B4⟩
      have hv4 : blkOf w4 vb = arr n0 f0 := by rw [blk_below B4 (by omega)]; go_simp
      have BB4 : Below vb w' w4 := (BB3.alloc (by omega) _).trans (B4.mono (by omega))
      clear B4 hv3 BB3
      have c0' : ((n0 : Int) == 0) = false := by have := unhide hN0; simp; omega
      have c1' : (((n0 : Int) % 8) != 0) = false := by have := unhide hN0; simp; omega
      have c2 : (n0 : Int) / 8 = (m0 : Int) := by have := unhide hN0; omega
      have C3 := hide (show m0 * 8 = n0 by have := unhide hN0; omega)
      have c4 : (m0 : Int) ≤ 1048576 := by omega
      go_wp2_with fail
      go_loopw [14] (fun i wr => i = .int .i64 0 ∧ Hid (∃ n, wr = w4.drewN n)) (fun _ _ => 0)
      case atStart => exact ⟨rfl, hide ⟨0, rfl⟩⟩
      case round =>
        obtain ⟨rfl, HWz14⟩ := hrel
        obtain ⟨nz14, rfl⟩ := unhide HWz14
        go_wp2_with fail
        go_loopw [18] (fun i wr => ∃ k : Nat, k ≤ m0 ∧ i = .int .i64 k ∧ Hid (∃ n, wr = w4.drewN n)) (fun i _ => m0 - (intOf i).toNat)
        case atStart => exact ⟨0, Nat.zero_le _, rfl, hide ⟨_, rfl⟩⟩
        case round =>
          obtain ⟨kg, hkg, rfl, HWg⟩ := hrel
          obtain ⟨ng, rfl⟩ := unhide HWg
          by_cases hltg : kg < m0
          · have x3 : (kg : Int) < (m0 : Int) := by first | omega | (have := unhide C3; omega)
            go_wp2_with fail
            go_loopw [19] (fun j wr => ∃ l : Nat, l ≤ 8 ∧ j = .int .i64 l ∧ Hid (∃ n, wr = w4.drewN n)) (fun j _ => 8 - (intOf j).toNat)
            case atStart => exact ⟨0, Nat.zero_le _, rfl, hide ⟨_, rfl⟩⟩
            case round =>
              obtain ⟨lg, hlg, rfl, HVg⟩ := hrel
              obtain ⟨qg, rfl⟩ := unhide HVg
              by_cases hlug : lg < 8
              · have x1 : (8 : Int) * (kg : Int) + (lg : Int) < (n0 : Int) := by first | omega | (have := unhide C3; omega)
                have x2 : (0 : Int) ≤ (8 : Int) * (kg : Int) + (lg : Int) := by first | omega | (have := unhide C3; omega)
                have x4 : (lg : Int) < 8 := by first | omega | (have := unhide C3; omega)
                have x5 : ((8 : Int) * (kg : Int) + (lg : Int)).toNat = kg * 8 + lg := by first | omega | (have := unhide C3; omega)
                have x6 : kg * 8 + lg < n0 := by first | omega | (have := unhide C3; omega)
                have hca : w4.cell? ⟨nb, kg * 8 + lg, none⟩ = some (.int .u8 (f0 (kg * 8 + lg))) := by
                  rw [blk_cell (by rw [hn4, len_arr]; omega), hn4]; simp [at_, arr_get (m0 * 8) f0 (kg * 8 + lg) (by first | omega | (have := unhide C3; omega))]
                have hcb : w4.cell? ⟨vb, kg * 8 + lg, none⟩ = some (.int .u8 (f0 (kg * 8 + lg))) := by
                  rw [blk_cell (by rw [hv4, len_arr]; omega), hv4]; simp [at_, arr_get (n0) f0 (kg * 8 + lg) (by first | omega | (have := unhide C3; omega))]
                go_wp2_with fail
                go_quiet (fail)
                go_wp2_with fail
                go_roundw
                case rel => exact ⟨lg + 1, by first | omega | (have := unhide C3; omega), by go_num, hide ⟨_, rfl⟩⟩
                case measure => simp [intOf]; omega
              · go_wp2_with fail
                go_roundw
                case rel => exact ⟨kg + 1, by first | omega | (have := unhide C3; omega), by go_num, hide ⟨_, rfl⟩⟩
                case measure => simp [intOf]; omega
          · 
            go_wp2_with fail
            go_ret
            exact ⟨rfl, by rw [unhide Hvb]; exact below_drewN BB4 _⟩

set_option maxRecDepth 100000 in
set_option maxHeartbeats 6400000 in
theorem walk_ona1 (b0 o0 : Nat) (s0 : Option Nat) (n0 c0 : Nat) (f0 : Nat → Int) (w : World) (hN0 : Hid (n0 = 0)) (hn : n0 + 0 ≤ 1048576) (hs0 : Hid (0 < n0 → s0 = none)) (hc0 : Hid (∀ i, i < n0 → w.cell? ⟨b0, o0 + i, none⟩ = some (.int .u8 (f0 i)))) :
    Calls Try.prog 5 #[.slice (some ⟨b0, o0, s0⟩) n0 c0, .slice none 0 0] w fun e w' => e = .returned (.bool true) ∧ Below w.heap.size w w' := by
  have l0 : (n0 : Int) ≤ 1048576 := by omega
  have e1 := fun W a n c => run_neq_slice_nil_any (P := Try.prog) W 22 5 a n c 0 0 Try.underlying22
  have e2 := fun W a n c => Lib.run_eql_slice_nil (P := Try.prog) W 38 40 a n c 0 0 Try.underlying38
  have mka := fun W => mk22 n0 (by omega) W
  have Y := hide (fun w => ebytes_yes (some ⟨b0, o0, s0⟩) none n0 c0 0 0 w hn)
  go_enter Try.func5, Try.ntmps5
  go_wp2_with fail
  refine (unhide Y _).mono ?_
  rintro e w' ⟨rfl, rfl⟩
  go_wp2_with fail
  go_loopw [6] (fun i wr => ∃ k : Nat, k ≤ n0 ∧ i = .int .i64 k ∧ Hid (CInv w' n0 f0 k wr)) (fun i _ => n0 - (intOf i).toNat)
  case atStart => exact ⟨0, Nat.zero_le _, rfl, hide (CInv_start _ _ _)⟩
  case round =>
    obtain ⟨k, hk, rfl, HI⟩ := hrel
    by_cases hlt : k < n0
    · have es0 := unhide hs0 (by omega)
      subst es0
      obtain ⟨⟨g, h1, h2⟩, h3, h4⟩ := unhide HI
      have hcell : wr.cell? ⟨b0, o0 + k, none⟩ = some (.int .u8 (f0 k)) := by
        have := unhide hc0 k hlt
        rw [h3.cell (World.block_lt_of_cell? _ _ this)]; exact this
      have hcv : wr.cell? ⟨w'.heap.size, k, none⟩ = some (.int .u8 (g k)) := by
        rw [blk_cell (by rw [h1, len_arr]; exact hlt), h1]; simp [at_, arr_get n0 g k hlt]
      have hfz : wr.frozen? ⟨w'.heap.size, k, none⟩ = false := blk_frozen (by rw [h1, len_arr]; omega)
      clear h1 h2 h3 h4
      go_wp2_with fail
      go_roundw
      case rel => exact ⟨k + 1, by omega, by go_num, hide (CInv_step _ _ _ _ _ (unhide HI))⟩
      case measure => simp [intOf]; omega
    · have hv1 : blkOf wr w'.heap.size = arr n0 f0 := CInv_end _ _ _ _ _ (unhide HI) (by omega)
      have B1 : Below w'.heap.size w' wr := (unhide HI).2.1
      have z1 : w'.heap.size < wr.heap.size := (unhide HI).2.2
      clear HI
      obtain ⟨w1, hw1⟩ : ∃ x, x = wr := ⟨_, rfl⟩
      subst hw1
      generalize hvb : w'.heap.size = vb at *
      have Hvb := hide hvb
      clear hvb
      obtain ⟨w3, hw3⟩ : ∃ x, x = w1 := ⟨_, rfl⟩
      subst hw3
      have hv3 : blkOf w3 vb = arr n0 f0 := hv1
      have BB3 : Below vb w' w3 := B1
      have zz : vb < w3.heap.size := z1
      clear B1 z1 hv1
      have d1 : ¬ vb = w3.heap.size := by omega
      go_wp2_with fail
      refine (zparse_no w3.heap.size (some ⟨vb, 0, none⟩) n0 n0 _ (by omega) (Or.inl (unhide hN0))).mono ?_
      rintro e w4 ⟨rfl, hw4⟩
      have ha4 : blkOf w4 w3.heap.size = attL (.slice none 0 0) := by rw [hw4]; go_simp
      have BB4 : Below vb w' w4 := by rw [hw4]; exact BB3.alloc (by omega) _
      clear hw4 BB3
      have c0' : ((n0 : Int) == 0) = true := by have := unhide hN0; simp; omega
      have C3 := hide (show True from trivial)
      go_wp2_with fail
      go_loopw [14] (fun i wr => i = .int .i64 0 ∧ Hid (∃ n, wr = w4.drewN n)) (fun _ _ => 0)
      case atStart => exact ⟨rfl, hide ⟨0, rfl⟩⟩
      case round =>
        obtain ⟨rfl, HWz14⟩ := hrel
        obtain ⟨nz14, rfl⟩ := unhide HWz14
        go_wp2_with fail
        go_loopw [16] (fun i wr => i = .int .i64 0 ∧ Hid (∃ n, wr = w4.drewN n)) (fun _ _ => 0)
        case atStart => exact ⟨rfl, hide ⟨_, rfl⟩⟩
        case round =>
          obtain ⟨rfl, HWz16⟩ := hrel
          obtain ⟨nz16, rfl⟩ := unhide HWz16
          go_wp2_with fail
          go_ret
          exact ⟨rfl, by rw [unhide Hvb]; exact below_drewN BB4 _⟩

set_option maxRecDepth 100000 in
set_option maxHeartbeats 6400000 in
theorem walk_ona2 (b0 o0 : Nat) (s0 : Option Nat) (n0 c0 : Nat) (f0 : Nat → Int) (w : World) (hN0 : Hid (¬ n0 = 0 ∧ ¬ n0 % 8 = 0)) (hn : n0 + 0 ≤ 1048576) (hs0 : Hid (0 < n0 → s0 = none)) (hc0 : Hid (∀ i, i < n0 → w.cell? ⟨b0, o0 + i, none⟩ = some (.int .u8 (f0 i)))) :
    Calls Try.prog 5 #[.slice (some ⟨b0, o0, s0⟩) n0 c0, .slice none 0 0] w fun e w' => e = .returned (.bool true) ∧ Below w.heap.size w w' := by
  have l0 : (n0 : Int) ≤ 1048576 := by omega
  have e1 := fun W a n c => run_neq_slice_nil_any (P := Try.prog) W 22 5 a n c 0 0 Try.underlying22
  have e2 := fun W a n c => Lib.run_eql_slice_nil (P := Try.prog) W 38 40 a n c 0 0 Try.underlying38
  have mka := fun W => mk22 n0 (by omega) W
  have Y := hide (fun w => ebytes_yes (some ⟨b0, o0, s0⟩) none n0 c0 0 0 w hn)
  go_enter Try.func5, Try.ntmps5
  go_wp2_with fail
  refine (unhide Y _).mono ?_
  rintro e w' ⟨rfl, rfl⟩
  go_wp2_with fail
  go_loopw [6] (fun i wr => ∃ k : Nat, k ≤ n0 ∧ i = .int .i64 k ∧ Hid (CInv w' n0 f0 k wr)) (fun i _ => n0 - (intOf i).toNat)
  case atStart => exact ⟨0, Nat.zero_le _, rfl, hide (CInv_start _ _ _)⟩
  case round =>
    obtain ⟨k, hk, rfl, HI⟩ := hrel
    by_cases hlt : k < n0
    · have es0 := unhide hs0 (by omega)
      subst es0
      obtain ⟨⟨g, h1, h2⟩, h3, h4⟩ := unhide HI
      have hcell : wr.cell? ⟨b0, o0 + k, none⟩ = some (.int .u8 (f0 k)) := by
        have := unhide hc0 k hlt
        rw [h3.cell (World.block_lt_of_cell? _ _ this)]; exact this
      have hcv : wr.cell? ⟨w'.heap.size, k, none⟩ = some (.int .u8 (g k)) := by
        rw [blk_cell (by rw [h1, len_arr]; exact hlt), h1]; simp [at_, arr_get n0 g k hlt]
      have hfz : wr.frozen? ⟨w'.heap.size, k, none⟩ = false := blk_frozen (by rw [h1, len_arr]; omega)
      clear h1 h2 h3 h4
      go_wp2_with fail
      go_roundw
      case rel => exact ⟨k + 1, by omega, by go_num, hide (CInv_step _ _ _ _ _ (unhide HI))⟩
      case measure => simp [intOf]; omega
    · have hv1 : blkOf wr w'.heap.size = arr n0 f0 := CInv_end _ _ _ _ _ (unhide HI) (by omega)
      have B1 : Below w'.heap.size w' wr := (unhide HI).2.1
      have z1 : w'.heap.size < wr.heap.size := (unhide HI).2.2
      clear HI
      obtain ⟨w1, hw1⟩ : ∃ x, x = wr := ⟨_, rfl⟩
      subst hw1
      generalize hvb : w'.heap.size = vb at *
      have Hvb := hide hvb
      clear hvb
      obtain ⟨w3, hw3⟩ : ∃ x, x = w1 := ⟨_, rfl⟩
      subst hw3
      have hv3 : blkOf w3 vb = arr n0 f0 := hv1
      have BB3 : Below vb w' w3 := B1
      have zz : vb < w3.heap.size := z1
      clear B1 z1 hv1
      have d1 : ¬ vb = w3.heap.size := by omega
      go_wp2_with fail
      refine (zparse_no w3.heap.size (some ⟨vb, 0, none⟩) n0 n0 _ (by omega) (Or.inr (unhide hN0).2)).mono ?_
      rintro e w4 ⟨rfl, hw4⟩
      have ha4 : blkOf w4 w3.heap.size = attL (.slice none 0 0) := by rw [hw4]; go_simp
      have BB4 : Below vb w' w4 := by rw [hw4]; exact BB3.alloc (by omega) _
      clear hw4 BB3
      have c0' : ((n0 : Int) == 0) = false := by have := unhide hN0; simp; omega
      have c1' : (((n0 : Int) % 8) != 0) = true := by have := unhide hN0; simp; omega
      have C3 := hide (show True from trivial)
      go_wp2_with fail
      go_loopw [14] (fun i wr => i = .int .i64 0 ∧ Hid (∃ n, wr = w4.drewN n)) (fun _ _ => 0)
      case atStart => exact ⟨rfl, hide ⟨0, rfl⟩⟩
      case round =>
        obtain ⟨rfl, HWz14⟩ := hrel
        obtain ⟨nz14, rfl⟩ := unhide HWz14
        go_wp2_with fail
        go_loopw [16] (fun i wr => i = .int .i64 0 ∧ Hid (∃ n, wr = w4.drewN n)) (fun _ _ => 0)
        case atStart => exact ⟨rfl, hide ⟨_, rfl⟩⟩
        case round =>
          obtain ⟨rfl, HWz16⟩ := hrel
          obtain ⟨nz16, rfl⟩ := unhide HWz16
          go_wp2_with fail
          go_ret
          exact ⟨rfl, by rw [unhide Hvb]; exact below_drewN BB4 _⟩

end Go.Proofs.Qxb6002605a
