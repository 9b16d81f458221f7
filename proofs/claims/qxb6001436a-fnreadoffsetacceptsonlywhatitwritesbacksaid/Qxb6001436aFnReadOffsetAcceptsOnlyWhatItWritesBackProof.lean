/- A proof of 'Rows.FnReadOffsetAcceptsOnlyWhatItWritesBackSaid'. The frame is the kit's shell; the walk is ours. -/
import Derived.Test.Qxb6001436aOffset
import Derived.WalkKit
import Derived.ProofKit
import Derived.OpenShut
import Derived.ShutString
namespace Go.Proofs.Qxb6001436a.fnReadOffsetAcceptsOnlyWhatItWritesBack
open Go.ChangeShapes Go.WideShapes Go.ChangeAt Go.RowKit
open Go.ChangeMaps (open_string shut_string)
set_option linter.unusedVariables false      -- a walk need not use every 'w<i>' (that an integer argument fits its kind)

theorem own : ownKnob Try.prog.godebug = none := by kernel_rfl

/-! ### STEP 1: THE WALK -/
theorem bytes_yes (s : ByteArray) (w : World) (h : s.size ≤ 1048576) :
    Calls Try.prog 15 #[.string s] w fun e w' => e = .returned (.bool true) ∧ w' = w := by
  have h2 : (s.size : Int) ≤ 1048576 := by omega
  go_enter Try.func15, Try.ntmps15
  go_wp2
  go_ret
  exact ⟨rfl, rfl⟩
theorem bytes_no (s : ByteArray) (w : World) (h : ¬ s.size ≤ 1048576) :
    Calls Try.prog 15 #[.string s] w fun e w' => e = .returned (.bool false) ∧ w' = w := by
  have h1 : (1048576 : Int) < (s.size : Int) := by omega
  go_enter Try.func15, Try.ntmps15
  go_wp2
  go_ret
  exact ⟨rfl, rfl⟩
theorem bt_ext (s f : ByteArray) (hsz : s.size = f.size) (h : ∀ j, j < f.size → bt s j = bt f j) : s = f := by
  apply ByteArray.ext_getElem hsz
  intro i h1 h2
  rw [bt_eq s i h1, bt_eq f i h2]
  exact h i h2
theorem back_byte (b : UInt8) (n : Int) (h : n = (b.toNat : Int)) : UInt8.ofNat n.toNat = b := by
  subst h; simp
/-- THE PLAIN LAW: a text of the form sign dd:dd is what its hours and minutes write -/
theorem off_back (s : ByteArray) (g : Int) (h6 : s.size = 6) (hg : g = ((bt s 0).toNat : Int)) (g1 : isDig (bt s 1) = true) (g2 : isDig (bt s 2) = true) (g3 : bt s 3 = 58) (g4 : isDig (bt s 4) = true) (g5 : isDig (bt s 5) = true) :
    offText g (hrs s) (mns s) = s := by
  have B1 := dv_bd s 1 g1
  have B2 := dv_bd s 2 g2
  have B4 := dv_bd s 4 g4
  have B5 := dv_bd s 5 g5
  refine bt_ext _ _ (by rw [off_size, h6]) fun j hj => ?_
  rw [h6] at hj
  match j, hj with
  | 0, _ => rw [off_bt0]; exact back_byte _ _ hg
  | 1, _ => rw [off_bt1]; exact back_byte _ _ (by unfold hrs dv at *; omega)
  | 2, _ => rw [off_bt2]; exact back_byte _ _ (by unfold hrs dv at *; omega)
  | 3, _ => rw [off_bt3, g3]
  | 4, _ => rw [off_bt4]; exact back_byte _ _ (by unfold mns dv at *; omega)
  | 5, _ => rw [off_bt5]; exact back_byte _ _ (by unfold mns dv at *; omega)
  | (n + 6), h => omega
theorem grown_drewN {W w : World} (h : Grown W w) (n : Nat) : Grown W (w.drewN n) := h

set_option maxHeartbeats 1000000 in
theorem walk_plus (a0 : ByteArray) (w0 : a0.size ≤ maxLen) (w : World) (h : hasFormB a0 plusF = true) :
    Calls Try.prog 7 #[.string a0] w fun e w' => e = .returned (.bool true) ∧ Grown w w' := by
  obtain ⟨h6, g0, g1, g2, g3, g4, g5⟩ := form_parts a0 plusF 43 rfl (by decide) h
  have z1 : ¬ a0 = zedU := by intro e; rw [e] at h6; cases h6
  have z2 : ¬ a0 = zedL := by intro e; rw [e] at h6; cases h6
  have h1' : (a0.toList == [90]) = false := lit_beq a0 [90] false (decide_eq_false z1)
  have h2' : (a0.toList == [122]) = false := lit_beq a0 [122] false (decide_eq_false z2)
  have B1 := dv_bd a0 1 g1
  have B2 := dv_bd a0 2 g2
  have B4 := dv_bd a0 4 g4
  have B5 := dv_bd a0 5 g5
  have b1 : 0 ≤ hrs a0 := by unfold hrs; omega
  have b2 : hrs a0 ≤ 99 := by unfold hrs; omega
  have b3 : 0 ≤ mns a0 := by unfold mns; omega
  have b4 : mns a0 ≤ 99 := by unfold mns; omega
  have hl0 : 0 < a0.size := by omega
  have hn6 : ((a0.size : Int) != 6) = false := by simp [h6]
  have hsm : (a0.size : Int) ≤ 65536 := by omega
  have hc0 : (a0[0].toNat : Int) = 43 := by rw [bt_eq a0 0 hl0, g0]; rfl
  have hc : ((a0[0].toNat : Int) == 45) = false := by rw [hc0]; rfl
  have hd : ((a0[0].toNat : Int) != 43) = false := by rw [hc0]; rfl
  have hd2 : ((a0[0].toNat : Int) != 45) = true := by rw [hc0]; rfl
  have C0 := hide hc0
  have E := hide (off_back a0 (a0[0].toNat : Int) h6 (by rw [bt_eq a0 0 hl0]) g1 g2 g3 g4 g5)
  have C : Hid (∀ w, Calls Try.prog 13 #[.string a0] w fun e w' => e = .returned (.tuple #[.int .i64 (hrs a0 * 3600 + mns a0 * 60), .int .i64 (hrs a0), .int .i64 (mns a0), .bool true]) ∧ ∃ n, w' = w.drewN n) :=
    hide fun w => zro _ _ _ _ _ w (ro_plus a0 w w0 h)
  have Y := hide (bytes_yes a0 w (by omega))
  clear h h6 g0 g1 g2 g3 g4 g5 z1 z2 B1 B2 B4 B5 hc0
  go_enter Try.func7, Try.ntmps7
  go_wp2_with fail
  refine (unhide Y).mono ?_
  rintro e w' ⟨rfl, rfl⟩
  go_wp2_with fail
  refine (unhide C _).mono ?_
  rintro e w' ⟨rfl, n, rfl⟩
  go_wp2_with fail
  refine (text_any _ (hrs a0) (mns a0) _ (by have := unhide C0; omega) (by have := unhide C0; omega) b1 b2 b3 b4).mono ?_
  rintro e w1 ⟨rfl, hg⟩
  rw [unhide E]
  go_wp2_with fail
  go_ret
  exact ⟨ret_bool (by simp), hg⟩

set_option maxHeartbeats 1000000 in
theorem walk_minus (a0 : ByteArray) (w0 : a0.size ≤ maxLen) (w : World) (h : hasFormB a0 minusF = true) :
    Calls Try.prog 7 #[.string a0] w fun e w' => e = .returned (.bool true) ∧ Grown w w' := by
  obtain ⟨h6, g0, g1, g2, g3, g4, g5⟩ := form_parts a0 minusF 45 rfl (by decide) h
  have z1 : ¬ a0 = zedU := by intro e; rw [e] at h6; cases h6
  have z2 : ¬ a0 = zedL := by intro e; rw [e] at h6; cases h6
  have h1' : (a0.toList == [90]) = false := lit_beq a0 [90] false (decide_eq_false z1)
  have h2' : (a0.toList == [122]) = false := lit_beq a0 [122] false (decide_eq_false z2)
  have B1 := dv_bd a0 1 g1
  have B2 := dv_bd a0 2 g2
  have B4 := dv_bd a0 4 g4
  have B5 := dv_bd a0 5 g5
  have b1 : 0 ≤ hrs a0 := by unfold hrs; omega
  have b2 : hrs a0 ≤ 99 := by unfold hrs; omega
  have b3 : 0 ≤ mns a0 := by unfold mns; omega
  have b4 : mns a0 ≤ 99 := by unfold mns; omega
  have hl0 : 0 < a0.size := by omega
  have hn6 : ((a0.size : Int) != 6) = false := by simp [h6]
  have hsm : (a0.size : Int) ≤ 65536 := by omega
  have hc0 : (a0[0].toNat : Int) = 45 := by rw [bt_eq a0 0 hl0, g0]; rfl
  have hc : ((a0[0].toNat : Int) == 45) = true := by rw [hc0]; rfl
  have hd : ((a0[0].toNat : Int) != 43) = true := by rw [hc0]; rfl
  have hd2 : ((a0[0].toNat : Int) != 45) = false := by rw [hc0]; rfl
  have C0 := hide hc0
  have E := hide (off_back a0 (a0[0].toNat : Int) h6 (by rw [bt_eq a0 0 hl0]) g1 g2 g3 g4 g5)
  have C : Hid (∀ w, Calls Try.prog 13 #[.string a0] w fun e w' => e = .returned (.tuple #[.int .i64 (-(hrs a0 * 3600 + mns a0 * 60)), .int .i64 (hrs a0), .int .i64 (mns a0), .bool true]) ∧ ∃ n, w' = w.drewN n) :=
    hide fun w => zro _ _ _ _ _ w (ro_minus a0 w w0 (not_both _ h) h)
  have Y := hide (bytes_yes a0 w (by omega))
  clear h h6 g0 g1 g2 g3 g4 g5 z1 z2 B1 B2 B4 B5 hc0
  go_enter Try.func7, Try.ntmps7
  go_wp2_with fail
  refine (unhide Y).mono ?_
  rintro e w' ⟨rfl, rfl⟩
  go_wp2_with fail
  refine (unhide C _).mono ?_
  rintro e w' ⟨rfl, n, rfl⟩
  go_wp2_with fail
  refine (text_any _ (hrs a0) (mns a0) _ (by have := unhide C0; omega) (by have := unhide C0; omega) b1 b2 b3 b4).mono ?_
  rintro e w1 ⟨rfl, hg⟩
  rw [unhide E]
  go_wp2_with fail
  go_ret
  exact ⟨ret_bool (by simp), hg⟩


set_option maxHeartbeats 1000000 in
theorem walk_zulu (a0 : ByteArray) (w0 : a0.size ≤ maxLen) (w : World) (h : a0 = zedU ∨ a0 = zedL) :
    Calls Try.prog 7 #[.string a0] w fun e w' => e = .returned (.bool true) ∧ Grown w w' := by
  have h1 : a0.size = 1 := by rcases h with rfl | rfl <;> rfl
  have hsm : (a0.size : Int) ≤ 65536 := by omega
  have Y := hide (bytes_yes a0 w (by omega))
  have C : Hid (∀ w, Calls Try.prog 13 #[.string a0] w fun e w' => e = .returned (.tuple #[.int .i64 0, .int .i64 0, .int .i64 0, .bool true]) ∧ ∃ n, w' = w.drewN n) :=
    hide fun w => zro _ _ _ _ _ w ((ro_zulu a0 w h).mono fun e w' ⟨he, hw⟩ => ⟨he, 0, hw⟩)
  clear h1
  by_cases e1 : a0 = zedU
  · have h1' : (a0.toList == [90]) = true := lit_beq a0 [90] true (decide_eq_true e1)
    clear h e1
    go_enter Try.func7, Try.ntmps7
    go_wp2_with fail
    refine (unhide Y).mono ?_
    rintro e w' ⟨rfl, rfl⟩
    go_wp2_with fail
    refine (unhide C _).mono ?_
    rintro e w' ⟨rfl, n, rfl⟩
    go_wp2_with fail
    go_ret
    exact ⟨ret_bool (by simp), Grown.refl _⟩
  · have e2 : a0 = zedL := by rcases h with h | h; exact absurd h e1; exact h
    have h1' : (a0.toList == [90]) = false := lit_beq a0 [90] false (decide_eq_false e1)
    have h2' : (a0.toList == [122]) = true := lit_beq a0 [122] true (decide_eq_true e2)
    clear h e1 e2
    go_enter Try.func7, Try.ntmps7
    go_wp2_with fail
    refine (unhide Y).mono ?_
    rintro e w' ⟨rfl, rfl⟩
    go_wp2_with fail
    refine (unhide C _).mono ?_
    rintro e w' ⟨rfl, n, rfl⟩
    go_wp2_with fail
    go_ret
    exact ⟨ret_bool (by simp), Grown.refl _⟩

set_option maxHeartbeats 1000000 in
theorem walk_no (a0 : ByteArray) (w0 : a0.size ≤ maxLen) (w : World) (hsz : a0.size ≤ 65536) (z1 : ¬ a0 = zedU) (z2 : ¬ a0 = zedL) (h3 : hasFormB a0 plusF = false) (h4 : hasFormB a0 minusF = false) :
    Calls Try.prog 7 #[.string a0] w fun e w' => e = .returned (.bool true) ∧ Grown w w' := by
  have hsm : (a0.size : Int) ≤ 65536 := by omega
  have Y := hide (bytes_yes a0 w (by omega))
  have h1' : (a0.toList == [90]) = false := lit_beq a0 [90] false (decide_eq_false z1)
  have h2' : (a0.toList == [122]) = false := lit_beq a0 [122] false (decide_eq_false z2)
  have C : Hid (∀ w, Calls Try.prog 13 #[.string a0] w fun e w' => e = .returned (.tuple #[.int .i64 0, .int .i64 0, .int .i64 0, .bool false]) ∧ ∃ n, w' = w.drewN n) :=
    hide fun w => zro _ _ _ _ _ w (ro_no a0 w w0 z1 z2 h3 h4)
  clear z1 z2 h3 h4
  go_enter Try.func7, Try.ntmps7
  go_wp2_with fail
  refine (unhide Y).mono ?_
  rintro e w' ⟨rfl, rfl⟩
  go_wp2_with fail
  refine (unhide C _).mono ?_
  rintro e w' ⟨rfl, n, rfl⟩
  go_wp2_with fail
  go_ret
  exact ⟨ret_bool (by simp), Grown.refl _⟩

set_option maxHeartbeats 1000000 in
theorem walk (a0 : ByteArray) (w0 : a0.size ≤ maxLen) (w : World) :
    Calls Try.prog 7 #[.string a0] w fun e w' => e = .returned (.bool true) ∧ Grown w w' := by
  by_cases hb : a0.size ≤ 1048576
  · by_cases hs : a0.size ≤ 65536
    · by_cases z1 : a0 = zedU
      · exact walk_zulu a0 w0 w (Or.inl z1)
      · by_cases z2 : a0 = zedL
        · exact walk_zulu a0 w0 w (Or.inr z2)
        · cases h3 : hasFormB a0 plusF
          · cases h4 : hasFormB a0 minusF
            · exact walk_no a0 w0 w hs z1 z2 h3 h4
            · exact walk_minus a0 w0 w h4
          · exact walk_plus a0 w0 w h3
    · have hs' : (65536 : Int) < (a0.size : Int) := by omega
      have Y := hide (bytes_yes a0 w hb)
      go_enter Try.func7, Try.ntmps7
      go_wp2_with fail
      refine (unhide Y).mono ?_
      rintro e w' ⟨rfl, rfl⟩
      go_wp2
      go_ret
      exact ⟨rfl, Grown.refl _⟩
  · have Y := hide (bytes_no a0 w hb)
    go_enter Try.func7, Try.ntmps7
    go_wp2_with fail
    refine (unhide Y).mono ?_
    rintro e w' ⟨rfl, rfl⟩
    go_wp2
    go_ret
    exact ⟨rfl, Grown.refl _⟩

/-! ### THE ROW's STEP: WRITTEN OUT: LEAVE IT -/
set_option maxRecDepth 100000 in
theorem lifted (os : Os) (started : os.Started) (H : Type) (enc : TypeId × Value → H) :
    ReturnsInHanded {} Try.checked os 7 .any (Rows.fnReadOffsetAcceptsOnlyWhatItWritesBackSpec.pre6 enc Try.prog Try.f7 Rows.fnReadOffsetAcceptsOnlyWhatItWritesBackRow.domain false) (Rows.fnReadOffsetAcceptsOnlyWhatItWritesBackSpec.post enc Try.prog Try.f7 false true false false) := by
  refine returnsInHanded_of_change (C := Try.checked) own started (by kernel_rfl) Try.func7
    (ChangeSpec.witness6 (enc := enc) (C := Try.checked) false ⟨#[], #[.string ByteArray.empty], []⟩ 8 (by kernel_rfl) (by kernel_rfl) (by kernel_rfl) (by kernel_rfl)) ?_
  intro W base args ds gs before hval0 hW hcnd _
  have hval : ∀ (j : Nat) t v, Try.f7.params[j]? = some t → args[j]? = some v → Value.okWide Try.prog W .any base t v := hval0
  have hW' := hW
  obtain ⟨p, q, hA0, hV, rfl, hfz, hnd⟩ := hW
  have hA : DataW.TrodAll enc Try.prog W 0 (fun _ => true) true Try.f7.params.toList args.toList ds p := hA0
  rw [Try.params7] at hA hval
  obtain ⟨v0, vs0, d0, ds0, p0, q0, hargs, rfl, rfl, h0, r0⟩ := trodAll_cons hA
  obtain ⟨rfl, rfl, rfl⟩ := trodAll_nil r0
  obtain rfl : args = #[v0] := by cases args; simp_all
  obtain ⟨rfl, rfl⟩ := trodVars_none hV
  obtain ⟨a0, rfl, rfl, rfl, w0⟩ := open_string Try.underlying9 (hval 0 9 v0 rfl rfl) h0
  clear hA0 hval0
  simp only [List.append_nil] at hW'
  refine (walk a0 w0 W).mono fun e W' ⟨he, hg⟩ => ?_
  subst he
  exact ⟨_, rfl, post_of_same (pa := []) (pv := []) hW' (fun _ _ _ => (trodAll_cons_mk (shut_bool Try.underlying4 _) trodAll_mk0)) (fun sp _ => (trodAll_cons_mk (shut_string Try.underlying9 w0) trodAll_mk0)) (fun _ _ => rfl) rfl
    (hg.frame _) hg.2.1 (ok_one (by kernel_rfl) rfl (okWide_bool_mk Try.underlying4 _))⟩

theorem over : Rows.fnReadOffsetAcceptsOnlyWhatItWritesBackRow.holds Try.pinned (OpenSpec.ofChange Rows.fnReadOffsetAcceptsOnlyWhatItWritesBackSpec) :=
  OpenClaim.holds_of_wide 7 Try.f7 rfl rfl rfl rfl rfl rfl rfl ⟨rfl, rfl, rfl, rfl, rfl⟩ rfl rfl rfl rfl rfl (by kernel_rfl) Try.func7 (by kernel_rfl)
    (of_decide_eq_true (by kernel_rfl)) (by unfold Func.isWrapper; first | (rw [if_pos (by decide +kernel)]; kernel_rfl) | (rw [if_neg (by decide +kernel)]; exact ⟨rfl, rfl⟩))
    (fun os started H enc _ => lifted os started H enc)

/-- ████ THE STATEMENT ████ -/
theorem proved : Rows.FnReadOffsetAcceptsOnlyWhatItWritesBackSaid :=
  over
end Go.Proofs.Qxb6001436a.fnReadOffsetAcceptsOnlyWhatItWritesBack
