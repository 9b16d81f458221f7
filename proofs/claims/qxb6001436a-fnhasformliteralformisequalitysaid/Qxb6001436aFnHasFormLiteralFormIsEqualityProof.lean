/- A proof of 'Rows.FnHasFormLiteralFormIsEqualitySaid'. The frame is the kit's shell; the walk is ours. -/
import Derived.Test.Qxb6001436aForm
import Derived.WalkKit
import Derived.ProofKit
import Derived.OpenShut
import Derived.ShutString
namespace Go.Proofs.Qxb6001436a.fnHasFormLiteralFormIsEquality
open Go.ChangeShapes Go.WideShapes Go.ChangeAt Go.RowKit
open Go.ChangeMaps (open_string shut_string)
set_option linter.unusedVariables false      -- a walk need not use every 'w<i>' (that an integer argument fits its kind)

theorem own : ownKnob Try.prog.godebug = none := by kernel_rfl

/-! ### STEP 1: THE WALK -/
theorem bytes_yes (s f : ByteArray) (w : World) (h : s.size + f.size ≤ 1048576) :
    Calls Try.prog 9 #[.string s, .string f] w fun e w' => e = .returned (.bool true) ∧ w' = w := by
  have h1 : (s.size : Int) + (f.size : Int) ≤ 1048576 := by omega
  have h2 : (s.size : Int) ≤ 1048576 := by omega
  have h3 : (f.size : Int) ≤ 1048576 := by omega
  go_enter Try.func9, Try.ntmps9
  go_wp2
  go_ret
  exact ⟨rfl, rfl⟩
theorem bytes_no (s f : ByteArray) (w : World) (w0 : s.size ≤ maxLen) (w1 : f.size ≤ maxLen) (h : ¬ s.size + f.size ≤ 1048576) :
    Calls Try.prog 9 #[.string s, .string f] w fun e w' => e = .returned (.bool false) ∧ w' = w := by
  unfold maxLen at w0 w1
  by_cases h1 : (1048576 : Int) < (s.size : Int)
  · go_enter Try.func9, Try.ntmps9
    go_wp2
    go_ret
    exact ⟨rfl, rfl⟩
  · by_cases h2 : (1048576 : Int) < (f.size : Int)
    · go_enter Try.func9, Try.ntmps9
      go_wp2
      go_ret
      exact ⟨rfl, rfl⟩
    · have h3 : (1048576 : Int) < (s.size : Int) + (f.size : Int) := by omega
      go_enter Try.func9, Try.ntmps9
      go_wp2
      go_ret
      exact ⟨rfl, rfl⟩

theorem zform_any (s f : ByteArray) (w : World) (hs : s.size ≤ maxLen) (hf : f.size ≤ maxLen) :
    Calls Try.prog 10 #[.string s, .string f] w fun e w' => e = .returned (.bool (hasFormB s f)) ∧ ∃ n, w' = w.drewN n := by
  go_enter Try.func10, Try.ntmps10
  go_wp2_with fail
  refine (form_any s f _ hs hf).mono ?_
  rintro e w' ⟨rfl, n, rfl⟩
  go_wp2
  go_ret
  exact ⟨rfl, n, rfl⟩

/-- THE PLAIN LAW: a form without 'd' and 'T' is matched by itself alone -/
theorem bt_ext (s f : ByteArray) (hsz : s.size = f.size) (h : ∀ j, j < f.size → bt s j = bt f j) : s = f := by
  apply ByteArray.ext_getElem hsz
  intro i h1 h2
  rw [bt_eq s i h1, bt_eq f i h2]
  exact h i h2
theorem plain (s f : ByteArray) (h : ∀ j, j < f.size → ¬ ((bt f j).toNat : Int) = 100 ∧ ¬ ((bt f j).toNat : Int) = 84) :
    hasFormB s f = decide (s = f) := by
  by_cases e : s = f
  · subst e
    have e : decide (s = s) = true := by simp
    rw [e]
    unfold hasFormB
    simp only [decide_eq_true_eq]
    exact ⟨trivial, fun j hj => okAt_lit_yes _ _ (h j hj).1 (h j hj).2 rfl⟩
  · rw [decide_eq_false e]
    unfold hasFormB
    simp only [decide_eq_false_iff_not]
    intro hh
    refine e (bt_ext s f hh.1 fun j hj => ?_)
    have := hh.2 j hj
    rw [okAt_lit _ _ (h j hj).1 (h j hj).2] at this
    simpa using this

set_option maxHeartbeats 1000000 in
theorem walk (a0 : ByteArray) (a1 : ByteArray) (w0 : a0.size ≤ maxLen) (w1 : a1.size ≤ maxLen) (w : World) :
    Calls Try.prog 3 #[.string a0, .string a1] w fun e w' => e = .returned (.bool true) ∧ Grown w w' := by
  by_cases hb : a0.size + a1.size ≤ 1048576
  · by_cases h1 : (65536 : Int) < (a0.size : Int)
    · go_enter Try.func3, Try.ntmps3
      go_wp2_with fail
      refine (bytes_yes _ _ _ hb).mono ?_
      rintro e w' ⟨rfl, rfl⟩
      go_wp2
      go_ret
      exact ⟨rfl, Grown.refl _⟩
    · by_cases h2 : (65536 : Int) < (a1.size : Int)
      · go_enter Try.func3, Try.ntmps3
        go_wp2_with fail
        refine (bytes_yes _ _ _ hb).mono ?_
        rintro e w' ⟨rfl, rfl⟩
        go_wp2
        go_ret
        exact ⟨rfl, Grown.refl _⟩
      · go_enter Try.func3, Try.ntmps3
        go_wp2_with fail
        refine (bytes_yes _ _ _ hb).mono ?_
        rintro e w' ⟨rfl, rfl⟩
        go_wp2
        go_loop [5] (fun i => ∃ k : Nat, k ≤ a1.size ∧ i = .int .i64 k ∧ Hid (∀ j, j < k → ¬ ((bt a1 j).toNat : Int) = 100 ∧ ¬ ((bt a1 j).toNat : Int) = 84)) (fun i => a1.size - (intOf i).toNat)
        case atStart => exact ⟨0, Nat.zero_le _, rfl, hide (fun j hj => absurd hj (Nat.not_lt_zero j))⟩
        case round =>
          obtain ⟨k, hk, rfl, hall⟩ := hrel
          by_cases hlt : k < a1.size
          · have Bf := hide (bt_eq a1 k hlt)
            by_cases h3 : (a1[k].toNat : Int) = 100
            · have h3' : ((a1[k].toNat : Int) == 100) = true := by simp [h3]
              clear h3
              go_wp2
              go_ret
              exact ⟨rfl, Grown.refl _⟩
            · have h3' : ((a1[k].toNat : Int) == 100) = false := by simp [h3]
              by_cases h4 : (a1[k].toNat : Int) = 84
              · have h4' : ((a1[k].toNat : Int) == 84) = true := by simp [h4]
                clear h3 h4
                go_wp2
                go_ret
                exact ⟨rfl, Grown.refl _⟩
              · have h4' : ((a1[k].toNat : Int) == 84) = false := by simp [h4]
                have Hno : Hid (¬ ((bt a1 k).toNat : Int) = 100 ∧ ¬ ((bt a1 k).toNat : Int) = 84) := hide (by rw [← unhide Bf]; exact ⟨h3, h4⟩)
                clear h3 h4
                go_wp2
                go_round
                case rel =>
                  refine ⟨k + 1, by omega, by go_num, hide fun j hj => ?_⟩
                  by_cases e : j = k
                  · subst e; exact unhide Hno
                  · exact unhide hall j (by omega)
                case measure => simp [intOf]; omega
          · have HP : Hid (hasFormB a0 a1 = decide (a0 = a1)) := hide (plain a0 a1 fun j hj => unhide hall j (by omega))
            go_wp2_with fail
            refine (zform_any _ _ _ w0 w1).mono ?_
            rintro e w' ⟨rfl, n, rfl⟩
            rw [unhide HP]
            go_wp2
            go_ret
            exact ⟨ret_bool (by rw [str_beq]; simp), Grown.refl _⟩
  · go_enter Try.func3, Try.ntmps3
    go_wp2_with fail
    refine (bytes_no _ _ _ w0 w1 hb).mono ?_
    rintro e w' ⟨rfl, rfl⟩
    go_wp2
    go_ret
    exact ⟨rfl, Grown.refl _⟩

/-! ### THE ROW's STEP: WRITTEN OUT: LEAVE IT -/
set_option maxRecDepth 100000 in
theorem lifted (os : Os) (started : os.Started) (H : Type) (enc : TypeId × Value → H) :
    ReturnsInHanded {} Try.checked os 3 .any (Rows.fnHasFormLiteralFormIsEqualitySpec.pre6 enc Try.prog Try.f3 Rows.fnHasFormLiteralFormIsEqualityRow.domain false) (Rows.fnHasFormLiteralFormIsEqualitySpec.post enc Try.prog Try.f3 false true false false) := by
  refine returnsInHanded_of_change (C := Try.checked) own started (by kernel_rfl) Try.func3
    (ChangeSpec.witness6 (enc := enc) (C := Try.checked) false ⟨#[], #[.string ByteArray.empty, .string ByteArray.empty], []⟩ 8 (by kernel_rfl) (by kernel_rfl) (by kernel_rfl) (by kernel_rfl)) ?_
  intro W base args ds gs before hval0 hW hcnd _
  have hval : ∀ (j : Nat) t v, Try.f3.params[j]? = some t → args[j]? = some v → Value.okWide Try.prog W .any base t v := hval0
  have hW' := hW
  obtain ⟨p, q, hA0, hV, rfl, hfz, hnd⟩ := hW
  have hA : DataW.TrodAll enc Try.prog W 0 (fun _ => true) true Try.f3.params.toList args.toList ds p := hA0
  rw [Try.params3] at hA hval
  obtain ⟨v0, vs0, d0, ds0, p0, q0, hargs, rfl, rfl, h0, r0⟩ := trodAll_cons hA
  obtain ⟨v1, vs1, d1, ds1, p1, q1, rfl, rfl, rfl, h1, r1⟩ := trodAll_cons r0
  obtain ⟨rfl, rfl, rfl⟩ := trodAll_nil r1
  obtain rfl : args = #[v0, v1] := by cases args; simp_all
  obtain ⟨rfl, rfl⟩ := trodVars_none hV
  obtain ⟨a0, rfl, rfl, rfl, w0⟩ := open_string Try.underlying9 (hval 0 9 v0 rfl rfl) h0
  obtain ⟨a1, rfl, rfl, rfl, w1⟩ := open_string Try.underlying9 (hval 1 9 v1 rfl rfl) h1
  clear hA0 hval0
  simp only [List.append_nil] at hW'
  refine (walk a0 a1 w0 w1 W).mono fun e W' ⟨he, hg⟩ => ?_
  subst he
  exact ⟨_, rfl, post_of_same (pa := []) (pv := []) hW' (fun _ _ _ => (trodAll_cons_mk (shut_bool Try.underlying4 _) trodAll_mk0)) (fun sp _ => (trodAll_cons_mk (shut_string Try.underlying9 w0) (trodAll_cons_mk (shut_string Try.underlying9 w1) trodAll_mk0))) (fun _ _ => rfl) rfl
    (hg.frame _) hg.2.1 (ok_one (by kernel_rfl) rfl (okWide_bool_mk Try.underlying4 _))⟩

theorem over : Rows.fnHasFormLiteralFormIsEqualityRow.holds Try.pinned (OpenSpec.ofChange Rows.fnHasFormLiteralFormIsEqualitySpec) :=
  OpenClaim.holds_of_wide 3 Try.f3 rfl rfl rfl rfl rfl rfl rfl ⟨rfl, rfl, rfl, rfl, rfl⟩ rfl rfl rfl rfl rfl (by kernel_rfl) Try.func3 (by kernel_rfl)
    (of_decide_eq_true (by kernel_rfl)) (by unfold Func.isWrapper; first | (rw [if_pos (by decide +kernel)]; kernel_rfl) | (rw [if_neg (by decide +kernel)]; exact ⟨rfl, rfl⟩))
    (fun os started H enc _ => lifted os started H enc)

/-- ████ THE STATEMENT ████ -/
theorem proved : Rows.FnHasFormLiteralFormIsEqualitySaid :=
  over
end Go.Proofs.Qxb6001436a.fnHasFormLiteralFormIsEquality
