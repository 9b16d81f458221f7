/- hasForm and decimalDigits: what the two Go functions compute, as plain functions; and that they do. -/
import Derived.Test.Qxb6001436aRows
import Derived.WalkKit
import Derived.ProofKit
import Derived.OpenShut
import Derived.ShutString
import Derived.Outline
import Derived.Deep.QuietTactic
import Derived.BigQuiet
import Derived.WalkSpells
import Derived.WalkLawsBesides
namespace Go.Proofs.Qxb6001436a
open Go.ChangeShapes Go.WideShapes Go.ChangeAt Go.RowKit
set_option linter.unusedVariables false

theorem hide {p : Prop} (h : p) : Hid p := h
theorem unhide {p : Prop} (h : Hid p) : p := h
/-- the byte at place j (0 past the end) -/
def bt (s : ByteArray) (j : Nat) : UInt8 := s.data.toList.getD j 0
theorem bt_eq (s : ByteArray) (j : Nat) (h : j < s.size) : s[j] = bt s j := by
  unfold bt
  rw [List.getD_eq_getElem?_getD, List.getElem?_eq_getElem (by simpa using h)]
  rfl
def isDig (c : UInt8) : Bool := decide (48 ≤ c.toNat ∧ c.toNat ≤ 57)
def allDig (s : ByteArray) : Bool := decide (∀ j, j < s.size → isDig (bt s j) = true)
def okAt (c f : UInt8) : Bool := if f.toNat = 100 then isDig c else if f.toNat = 84 then decide (c.toNat = 84 ∨ c.toNat = 116) else decide (c = f)
def hasFormB (s f : ByteArray) : Bool := decide (s.size = f.size ∧ ∀ j, j < f.size → okAt (bt s j) (bt f j) = true)

theorem str_beq (a b : ByteArray) : (a.toList == b.toList) = decide (a = b) := by
  rw [ByteArray.toList_eq, ByteArray.toList_eq]
  by_cases e : a = b
  · subst e; simp
  · rw [decide_eq_false e]
    refine beq_eq_false_iff_ne.2 fun h => e (Go.WideShapes.bytes_inj h)
theorem ret_bool {a b : Bool} (h : a = b) : Ending.returned (.bool a) = .returned (.bool b) := by rw [h]

theorem allDig_no (s : ByteArray) (k : Nat) (h : k < s.size) (hd : (s[k].toNat : Int) < 48 ∨ 57 < (s[k].toNat : Int)) : allDig s = false := by
  rw [bt_eq s k h] at hd
  unfold allDig; simp only [decide_eq_false_iff_not]; intro hh
  have := hh k h
  unfold isDig at this
  simp only [decide_eq_true_eq] at this
  omega
theorem allDig_yes (s : ByteArray) (k : Nat) (h : ¬ k < s.size) (hd : ∀ j, j < k → isDig (bt s j) = true) : allDig s = true := by
  unfold allDig; simp only [decide_eq_true_eq]; intro j hj; exact hd j (by omega)
theorem isDig_snoc (s : ByteArray) (k : Nat) (h : k < s.size) (hd : 48 ≤ (s[k].toNat : Int) ∧ (s[k].toNat : Int) ≤ 57) (ha : ∀ j, j < k → isDig (bt s j) = true) : ∀ j, j < k + 1 → isDig (bt s j) = true := by
  rw [bt_eq s k h] at hd
  intro j hj
  by_cases e : j = k
  · subst e; unfold isDig; simp only [decide_eq_true_eq]; omega
  · exact ha j (by omega)

set_option maxHeartbeats 400000 in
theorem digits_any (s : ByteArray) (w : World) (hs : s.size ≤ maxLen) :
    Calls Try.prog 19 #[.string s] w fun e w' => e = .returned (.bool (allDig s)) ∧ w' = w := by
  unfold maxLen at hs
  go_enter Try.func19, Try.ntmps19
  go_wp2
  go_loop [3] (fun i => ∃ k : Nat, k ≤ s.size ∧ i = .int .i64 k ∧ Hid (∀ j, j < k → isDig (bt s j) = true)) (fun i => s.size - (intOf i).toNat)
  case atStart => exact ⟨0, Nat.zero_le _, rfl, hide (fun j hj => absurd hj (Nat.not_lt_zero j))⟩
  case round =>
    obtain ⟨k, hk, rfl, hall⟩ := hrel
    by_cases hlt : k < s.size
    · by_cases h1 : (s[k].toNat : Int) < 48
      · go_wp2
        go_ret
        exact ⟨ret_bool (allDig_no s k hlt (by omega)).symm, rfl⟩
      · by_cases h2 : 57 < (s[k].toNat : Int)
        · go_wp2
          go_ret
          exact ⟨ret_bool (allDig_no s k hlt (by omega)).symm, rfl⟩
        · go_wp2
          go_round
          case rel => exact ⟨k + 1, by omega, by go_num, hide (isDig_snoc s k hlt (by omega) (unhide hall))⟩
          case measure => simp [intOf]; omega
    · go_wp2
      go_ret
      exact ⟨ret_bool (allDig_yes s k hlt (unhide hall)).symm, rfl⟩

theorem one_dig (s : ByteArray) (k : Nat) (h : k < s.size) : allDig (s.extract k (k + 1)) = isDig (bt s k) := by
  have hsz : (s.extract k (k + 1)).size = 1 := by rw [ByteArray.size_extract]; omega
  have hb : bt (s.extract k (k + 1)) 0 = bt s k := by
    rw [← bt_eq s k h, ← bt_eq _ 0 (by omega)]
    simp [ByteArray.getElem_extract]
  unfold allDig
  rw [hsz]
  by_cases hd : isDig (bt s k) = true
  · rw [hd]; simp only [decide_eq_true_eq]
    intro j hj
    obtain rfl : j = 0 := by omega
    rw [hb]; exact hd
  · have hd' : isDig (bt s k) = false := by simpa using hd
    rw [hd']; simp only [decide_eq_false_iff_not]
    intro hh
    have := hh 0 (by omega)
    rw [hb] at this; exact hd this

theorem form_no_size (s f : ByteArray) (h : ¬ s.size = f.size) : hasFormB s f = false := by
  unfold hasFormB; simp only [decide_eq_false_iff_not]; intro hh; exact h hh.1
theorem form_no (s f : ByteArray) (k : Nat) (h : k < f.size) (hk : okAt (bt s k) (bt f k) = false) : hasFormB s f = false := by
  unfold hasFormB; simp only [decide_eq_false_iff_not]; intro hh; rw [hh.2 k h] at hk; cases hk
theorem form_yes (s f : ByteArray) (k : Nat) (hs : s.size = f.size) (h : ¬ k < f.size) (hk : ∀ j, j < k → okAt (bt s j) (bt f j) = true) : hasFormB s f = true := by
  unfold hasFormB; simp only [decide_eq_true_eq]; exact ⟨hs, fun j hj => hk j (by omega)⟩
theorem form_snoc (s f : ByteArray) (k : Nat) (hk : okAt (bt s k) (bt f k) = true) (ha : ∀ j, j < k → okAt (bt s j) (bt f j) = true) : ∀ j, j < k + 1 → okAt (bt s j) (bt f j) = true := by
  intro j hj
  by_cases e : j = k
  · subst e; exact hk
  · exact ha j (by omega)

theorem digits_at (s : ByteArray) (k : Nat) (b : Bool) (w : World) (hs : s.size ≤ 2 ^ 63 - 1) (h : k < s.size) (hb : isDig (bt s k) = b) :
    Calls Try.prog 19 #[.string (s.extract k (k + 1))] w fun e w' => e = .returned (.bool b) ∧ w' = w := by
  have hx : (s.extract k (k + 1)).size ≤ maxLen := by rw [ByteArray.size_extract]; unfold maxLen; omega
  have := digits_any (s.extract k (k + 1)) w hx
  rw [one_dig s k h, hb] at this
  exact this

theorem okAt_d (c f : UInt8) (h : (f.toNat : Int) = 100) : okAt c f = isDig c := by
  unfold okAt; rw [if_pos (by omega)]
theorem okAt_T (c f : UInt8) (h : (f.toNat : Int) = 84) : okAt c f = decide (c.toNat = 84 ∨ c.toNat = 116) := by
  unfold okAt; rw [if_neg (by omega), if_pos (by omega)]
theorem okAt_lit (c f : UInt8) (h : ¬ (f.toNat : Int) = 100) (h' : ¬ (f.toNat : Int) = 84) : okAt c f = decide (c = f) := by
  unfold okAt; rw [if_neg (by omega), if_neg (by omega)]
theorem okAt_T_yes (c f : UInt8) (h : (f.toNat : Int) = 84) (h2 : (c.toNat : Int) = 84 ∨ (c.toNat : Int) = 116) : okAt c f = true := by
  rw [okAt_T c f h]; simp only [decide_eq_true_eq]; omega
theorem okAt_T_no (c f : UInt8) (h : (f.toNat : Int) = 84) (h2 : ¬ (c.toNat : Int) = 84) (h3 : ¬ (c.toNat : Int) = 116) : okAt c f = false := by
  rw [okAt_T c f h]; simp only [decide_eq_false_iff_not]; omega
theorem okAt_lit_yes (c f : UInt8) (h : ¬ (f.toNat : Int) = 100) (h' : ¬ (f.toNat : Int) = 84) (h2 : (c.toNat : Int) = (f.toNat : Int)) : okAt c f = true := by
  rw [okAt_lit c f h h']; simp only [decide_eq_true_eq]; exact UInt8.toNat.inj (by omega)
theorem okAt_lit_no (c f : UInt8) (h : ¬ (f.toNat : Int) = 100) (h' : ¬ (f.toNat : Int) = 84) (h2 : ¬ (c.toNat : Int) = (f.toNat : Int)) : okAt c f = false := by
  rw [okAt_lit c f h h']; simp only [decide_eq_false_iff_not]; intro e; exact h2 (by rw [e])

theorem drewN_trans {w w1 : World} (h : ∃ n, w1 = w.drewN n) (m : Nat) : ∃ n, w1.drewN m = w.drewN n := by
  obtain ⟨n, rfl⟩ := h
  exact ⟨n + m, by rw [World.drewN_drewN]⟩

set_option maxHeartbeats 1000000 in
theorem form_any (s f : ByteArray) (w : World) (hs : s.size ≤ maxLen) (hf : f.size ≤ maxLen) :
    Calls Try.prog 17 #[.string s, .string f] w fun e w' => e = .returned (.bool (hasFormB s f)) ∧ ∃ n, w' = w.drewN n := by
  unfold maxLen at hs hf
  by_cases hsz : s.size = f.size
  · have hsz' : ((s.size : Int) != (f.size : Int)) = false := by simp [hsz]
    have Hsz := hide hsz
    clear hsz
    go_enter Try.func17, Try.ntmps17
    go_wp2
    go_loopw [5] (fun i wr => ∃ k : Nat, k ≤ f.size ∧ i = .int .i64 k ∧ Hid (∀ j, j < k → okAt (bt s j) (bt f j) = true) ∧ Hid (∃ n, wr = w.drewN n)) (fun i _ => f.size - (intOf i).toNat)
    case atStart => exact ⟨0, Nat.zero_le _, rfl, hide (fun j hj => absurd hj (Nat.not_lt_zero j)), hide ⟨0, rfl⟩⟩
    case round =>
      obtain ⟨k, hk, rfl, hall, hwr⟩ := hrel
      by_cases hlt : k < f.size
      · have hlt' : k < s.size := by have := unhide Hsz; omega
        have Bf := hide (bt_eq f k hlt)
        have Bs := hide (bt_eq s k hlt')
        by_cases h1 : (f[k].toNat : Int) = 100
        · have h1' : ((f[k].toNat : Int) == 100) = true := by simp [h1]
          have H1 := hide h1
          clear h1
          by_cases hd : isDig (bt s k) = true
          · have Hok : Hid (okAt (bt s k) (bt f k) = true) := hide (by rw [okAt_d _ _ (by rw [← unhide Bf]; exact unhide H1)]; exact hd)
            have Hd := hide hd
            clear hd
            go_wp2_with fail
            refine (digits_at s k true _ hs hlt' (unhide Hd)).mono ?_
            rintro e w' ⟨rfl, rfl⟩
            go_wp2
            go_roundw
            case rel => exact ⟨k + 1, by omega, by go_num, hide (form_snoc s f k (unhide Hok) (unhide hall)), hwr⟩
            case measure => simp [intOf]; omega
          · have hd' : isDig (bt s k) = false := by simpa using hd
            have Hok : Hid (okAt (bt s k) (bt f k) = false) := hide (by rw [okAt_d _ _ (by rw [← unhide Bf]; exact unhide H1)]; exact hd')
            have Hd := hide hd'
            clear hd hd'
            go_wp2_with fail
            refine (digits_at s k false _ hs hlt' (unhide Hd)).mono ?_
            rintro e w' ⟨rfl, rfl⟩
            go_wp2
            go_ret
            exact ⟨ret_bool (form_no s f k hlt (unhide Hok)).symm, unhide hwr⟩
        · have h1' : ((f[k].toNat : Int) == 100) = false := by simp [h1]
          have H1 := hide h1
          clear h1
          by_cases h2 : (f[k].toNat : Int) = 84
          · have h2' : ((f[k].toNat : Int) == 84) = true := by simp [h2]
            have H2 : Hid (((bt f k).toNat : Int) = 84) := hide (by rw [← unhide Bf]; exact h2)
            clear h2
            by_cases h3 : (s[k].toNat : Int) = 84
            · have h3' : ((s[k].toNat : Int) != 84) = false := by simp [h3]
              have Hok : Hid (okAt (bt s k) (bt f k) = true) := hide (okAt_T_yes _ _ (unhide H2) (Or.inl (by rw [← unhide Bs]; exact h3)))
              clear h3
              go_wp2
              go_roundw
              case rel => exact ⟨k + 1, by omega, by go_num, hide (form_snoc s f k (unhide Hok) (unhide hall)), hwr⟩
              case measure => simp [intOf]; omega
            · have h3' : ((s[k].toNat : Int) != 84) = true := by simp [h3]
              by_cases h4 : (s[k].toNat : Int) = 116
              · have h4' : ((s[k].toNat : Int) != 116) = false := by simp [h4]
                have Hok : Hid (okAt (bt s k) (bt f k) = true) := hide (okAt_T_yes _ _ (unhide H2) (Or.inr (by rw [← unhide Bs]; exact h4)))
                clear h3 h4
                go_wp2
                go_roundw
                case rel => exact ⟨k + 1, by omega, by go_num, hide (form_snoc s f k (unhide Hok) (unhide hall)), hwr⟩
                case measure => simp [intOf]; omega
              · have h4' : ((s[k].toNat : Int) != 116) = true := by simp [h4]
                have Hok : Hid (okAt (bt s k) (bt f k) = false) := hide (okAt_T_no _ _ (unhide H2) (by rw [← unhide Bs]; exact h3) (by rw [← unhide Bs]; exact h4))
                clear h3 h4
                go_wp2
                go_ret
                exact ⟨ret_bool (form_no s f k hlt (unhide Hok)).symm, unhide hwr⟩
          · have h2' : ((f[k].toNat : Int) == 84) = false := by simp [h2]
            have H2 : Hid (¬ ((bt f k).toNat : Int) = 84) := hide (by rw [← unhide Bf]; exact h2)
            have H1' : Hid (¬ ((bt f k).toNat : Int) = 100) := hide (by rw [← unhide Bf]; exact unhide H1)
            clear h2
            by_cases h3 : (s[k].toNat : Int) = (f[k].toNat : Int)
            · have h3' : ((s[k].toNat : Int) != (f[k].toNat : Int)) = false := by simp [h3]
              have Hok : Hid (okAt (bt s k) (bt f k) = true) := hide (okAt_lit_yes _ _ (unhide H1') (unhide H2) (by rw [← unhide Bs, ← unhide Bf]; exact h3))
              clear h3
              go_wp2
              go_quiet (fail)
              go_wp2
              go_roundw
              case rel => exact ⟨k + 1, by omega, by go_num, hide (form_snoc s f k (unhide Hok) (unhide hall)), hide (drewN_trans (unhide hwr) _)⟩
              case measure => simp [intOf]; omega
            · have h3' : ((s[k].toNat : Int) != (f[k].toNat : Int)) = true := by simp [h3]
              have Hok : Hid (okAt (bt s k) (bt f k) = false) := hide (okAt_lit_no _ _ (unhide H1') (unhide H2) (by rw [← unhide Bs, ← unhide Bf]; exact h3))
              clear h3
              go_wp2
              go_quiet (fail)
              go_wp2
              go_ret
              exact ⟨ret_bool (form_no s f k hlt (unhide Hok)).symm, drewN_trans (unhide hwr) _⟩
      · go_wp2
        go_ret
        exact ⟨ret_bool (form_yes s f k (unhide Hsz) hlt (unhide hall)).symm, unhide hwr⟩
  · have hsz' : ((s.size : Int) != (f.size : Int)) = true := by simp; omega
    have Hsz := hide hsz
    clear hsz
    go_enter Try.func17, Try.ntmps17
    go_wp2
    go_ret
    exact ⟨ret_bool (form_no_size s f (unhide Hsz)).symm, ⟨0, rfl⟩⟩
end Go.Proofs.Qxb6001436a
