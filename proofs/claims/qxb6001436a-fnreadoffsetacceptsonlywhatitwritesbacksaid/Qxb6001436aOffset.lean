/- digitsAt, readOffset, zzOffsetText: what they compute. -/
import Derived.Test.Qxb6001436aForm
namespace Go.Proofs.Qxb6001436a
open Go.ChangeShapes Go.WideShapes Go.ChangeAt Go.RowKit
set_option linter.unusedVariables false

set_option maxHeartbeats 400000 in
theorem two_at (s : ByteArray) (a : Int) (p : Nat) (x y : Int) (w : World) (ha : a = p) (hp : p + 1 < s.size) (hs : s.size ≤ maxLen)
    (hx : (s[p].toNat : Int) - 48 = x) (hy : (s[p + 1].toNat : Int) - 48 = y) (hx0 : 0 ≤ x) (hx9 : x ≤ 9) (hy0 : 0 ≤ y) (hy9 : y ≤ 9) :
    Calls Try.prog 20 #[.string s, .int .i64 a, .int .i64 2] w fun e w' => e = .returned (.int .i64 (x * 10 + y)) ∧ w' = w := by
  subst ha
  unfold maxLen at hs
  have Hx := hide hx
  have Hy := hide hy
  clear hx hy
  go_enter Try.func20, Try.ntmps20
  go_wp2
  go_loop [7, 8] (fun v i => (v = .int .i64 0 ∧ i = .int .i64 p) ∨ (v = .int .i64 x ∧ i = .int .i64 ((p : Int) + 1)) ∨ (v = .int .i64 (x * 10 + y) ∧ i = .int .i64 ((p : Int) + 2))) (fun _ i => p + 2 - (intOf i).toNat)
  case atStart => exact Or.inl ⟨rfl, rfl⟩
  case round =>
    rcases hrel with ⟨rfl, rfl⟩ | ⟨rfl, rfl⟩ | ⟨rfl, rfl⟩
    · have h1 : 48 ≤ (s[p].toNat : Int) := by have := unhide Hx; omega
      have h2 : (s[p].toNat : Int) ≤ 57 := by have := unhide Hx; omega
      go_wp2
      go_round
      case rel => exact Or.inr (Or.inl ⟨by rw [unhide Hx], rfl⟩)
      case measure => simp [intOf]
    · have h1 : 48 ≤ (s[p + 1].toNat : Int) := by have := unhide Hy; omega
      have h2 : (s[p + 1].toNat : Int) ≤ 57 := by have := unhide Hy; omega
      go_wp2
      go_round
      case rel => exact Or.inr (Or.inr ⟨by rw [unhide Hy], by go_num⟩)
      case measure => simp [intOf]; omega
    · go_wp2
      go_ret
      exact ⟨rfl, rfl⟩

def zedU : ByteArray := ⟨#[90]⟩
def zedL : ByteArray := ⟨#[122]⟩
def plusF : ByteArray := ⟨#[43, 100, 100, 58, 100, 100]⟩
def minusF : ByteArray := ⟨#[45, 100, 100, 58, 100, 100]⟩

theorem lit_beq (s : ByteArray) (l : List UInt8) (b : Bool) (h : decide (s = ⟨l.toArray⟩) = b) : (s.toList == l) = b := by
  rw [← h, ← str_beq, ByteArray.toList_eq (⟨l.toArray⟩ : ByteArray)]

set_option maxHeartbeats 400000 in
theorem ro_zulu (s : ByteArray) (w : World) (h : s = zedU ∨ s = zedL) :
    Calls Try.prog 18 #[.string s] w fun e w' => e = .returned (.tuple #[.int .i64 0, .int .i64 0, .int .i64 0, .bool true]) ∧ w' = w := by
  by_cases h1 : s = zedU
  · have h1' : (s.toList == [90]) = true := lit_beq s [90] true (decide_eq_true h1)
    clear h h1
    go_enter Try.func18, Try.ntmps18
    go_wp2
    exact bodyPost_ret (v := .tuple #[.int .i64 0, .int .i64 0, .int .i64 0, .bool true]) (by simp [results, Try.results18, go_sem]) rfl ⟨rfl, rfl⟩
  · have h2 : s = zedL := by rcases h with h | h; exact absurd h h1; exact h
    have h1' : (s.toList == [90]) = false := lit_beq s [90] false (decide_eq_false h1)
    have h2' : (s.toList == [122]) = true := lit_beq s [122] true (decide_eq_true h2)
    clear h h1 h2
    go_enter Try.func18, Try.ntmps18
    go_wp2
    exact bodyPost_ret (v := .tuple #[.int .i64 0, .int .i64 0, .int .i64 0, .bool true]) (by simp [results, Try.results18, go_sem]) rfl ⟨rfl, rfl⟩
set_option maxHeartbeats 400000 in
theorem ro_no (s : ByteArray) (w : World) (hs : s.size ≤ maxLen) (h1 : ¬ s = zedU) (h2 : ¬ s = zedL) (h3 : hasFormB s plusF = false) (h4 : hasFormB s minusF = false) :
    Calls Try.prog 18 #[.string s] w fun e w' => e = .returned (.tuple #[.int .i64 0, .int .i64 0, .int .i64 0, .bool false]) ∧ ∃ n, w' = w.drewN n := by
  have h1' : (s.toList == [90]) = false := lit_beq s [90] false (decide_eq_false h1)
  have h2' : (s.toList == [122]) = false := lit_beq s [122] false (decide_eq_false h2)
  have H3 := hide h3
  have H4 := hide h4
  clear h1 h2 h3 h4
  go_enter Try.func18, Try.ntmps18
  go_wp2_with fail
  refine (form_any s plusF _ hs (by decide)).mono ?_
  rintro e w' ⟨rfl, n, rfl⟩
  rw [unhide H3]
  go_wp2_with fail
  refine (form_any s minusF _ hs (by decide)).mono ?_
  rintro e w' ⟨rfl, m, rfl⟩
  rw [unhide H4]
  go_wp2_with fail
  exact bodyPost_ret (v := .tuple #[.int .i64 0, .int .i64 0, .int .i64 0, .bool false]) (by simp [results, Try.results18, go_sem]) rfl ⟨rfl, n + m, rfl⟩

theorem mk6 (w : World) : (Instr.makeSlice 24 (.int .i64 6) (.int .i64 6)).run Try.prog w = .ok (.slice (some ⟨w.heap.size, 0, none⟩) 6 6) (w.alloc (.cells #[.int .u8 0, .int .u8 0, .int .u8 0, .int .u8 0, .int .u8 0, .int .u8 0] 5)) := by kernel_rfl
theorem conv6 (a b c d e f : Int) (w : World) : (convert 24 9 (.slice (some ⟨w.heap.size, 0, none⟩) 6 6)).run Try.prog (w.alloc (.cells #[.int .u8 a, .int .u8 b, .int .u8 c, .int .u8 d, .int .u8 e, .int .u8 f] 5)) = .ok (.string (strOfNums [a, b, c, d, e, f])) (w.alloc (.cells #[.int .u8 a, .int .u8 b, .int .u8 c, .int .u8 d, .int .u8 e, .int .u8 f] 5)) := by
  refine run_convert_bytes_arg _ 24 5 Try.underlying24 Try.underlying5 w.heap.size 0 6 6 [a, b, c, d, e, f] rfl ?_ 9 Try.underlying9
  intro i hi
  rw [World.cell?_alloc_mark]
  match i, hi with
  | 0, _ => simp
  | 1, _ => simp
  | 2, _ => simp
  | 3, _ => simp
  | 4, _ => simp
  | 5, _ => simp
def offText (g h m : Int) : ByteArray := strOfNums [g, 48 + h / 10, 48 + h % 10, 58, 48 + m / 10, 48 + m % 10]
set_option maxHeartbeats 400000 in
theorem text_any (g h m : Int) (w : World) (hg0 : 0 ≤ g) (hg1 : g ≤ 255) (hh0 : 0 ≤ h) (hh1 : h ≤ 99) (hm0 : 0 ≤ m) (hm1 : m ≤ 99) :
    Calls Try.prog 14 #[.int .u8 g, .int .i64 h, .int .i64 m] w fun e w' => e = .returned (.string (offText g h m)) ∧ Grown w w' := by
  have hmk := mk6
  have hcv := conv6
  go_enter Try.func14, Try.ntmps14
  go_wp2
  go_ret
  exact ⟨rfl, (Grown.refl _).alloc _ _⟩

/-! ### readOffset where it accepts sign hh:mm -/
theorem plus_size : plusF.size = 6 := rfl
theorem minus_size : minusF.size = 6 := rfl
/-- what a text of the form 'sign dd:dd' holds -/
theorem form_parts (s : ByteArray) (F : ByteArray) (c : UInt8) (hF : F = ⟨#[c, 100, 100, 58, 100, 100]⟩) (hc : ¬ (c.toNat : Int) = 100 ∧ ¬ (c.toNat : Int) = 84) (h : hasFormB s F = true) :
    s.size = 6 ∧ bt s 0 = c ∧ isDig (bt s 1) = true ∧ isDig (bt s 2) = true ∧ bt s 3 = 58 ∧ isDig (bt s 4) = true ∧ isDig (bt s 5) = true := by
  subst hF
  unfold hasFormB at h
  simp only [decide_eq_true_eq] at h
  obtain ⟨h6, hj⟩ := h
  have e6 : ByteArray.size ⟨#[c, 100, 100, 58, 100, 100]⟩ = 6 := rfl
  rw [e6] at h6 hj
  have j0 := hj 0 (by omega)
  have j1 := hj 1 (by omega)
  have j2 := hj 2 (by omega)
  have j3 := hj 3 (by omega)
  have j4 := hj 4 (by omega)
  have j5 := hj 5 (by omega)
  have f0 : bt ⟨#[c, 100, 100, 58, 100, 100]⟩ 0 = c := rfl
  have f1 : bt ⟨#[c, 100, 100, 58, 100, 100]⟩ 1 = 100 := rfl
  have f2 : bt ⟨#[c, 100, 100, 58, 100, 100]⟩ 2 = 100 := rfl
  have f3 : bt ⟨#[c, 100, 100, 58, 100, 100]⟩ 3 = 58 := rfl
  have f4 : bt ⟨#[c, 100, 100, 58, 100, 100]⟩ 4 = 100 := rfl
  have f5 : bt ⟨#[c, 100, 100, 58, 100, 100]⟩ 5 = 100 := rfl
  rw [f0, okAt_lit _ _ hc.1 hc.2] at j0
  rw [f1, okAt_d _ _ (by decide)] at j1
  rw [f2, okAt_d _ _ (by decide)] at j2
  rw [f3, okAt_lit _ _ (by decide) (by decide)] at j3
  rw [f4, okAt_d _ _ (by decide)] at j4
  rw [f5, okAt_d _ _ (by decide)] at j5
  exact ⟨h6, of_decide_eq_true j0, j1, j2, of_decide_eq_true j3, j4, j5⟩
theorem form_mk (s : ByteArray) (F : ByteArray) (c : UInt8) (hF : F = ⟨#[c, 100, 100, 58, 100, 100]⟩) (hc : ¬ (c.toNat : Int) = 100 ∧ ¬ (c.toNat : Int) = 84)
    (h6 : s.size = 6) (h0 : bt s 0 = c) (h1 : isDig (bt s 1) = true) (h2 : isDig (bt s 2) = true) (h3 : bt s 3 = 58) (h4 : isDig (bt s 4) = true) (h5 : isDig (bt s 5) = true) : hasFormB s F = true := by
  subst hF
  unfold hasFormB
  simp only [decide_eq_true_eq]
  have e6 : ByteArray.size ⟨#[c, 100, 100, 58, 100, 100]⟩ = 6 := rfl
  refine ⟨h6, fun j hj => ?_⟩
  rw [e6] at hj
  match j, hj with
  | 0, _ => exact okAt_lit_yes _ _ hc.1 hc.2 (by rw [h0]; rfl)
  | 1, _ => rw [okAt_d _ _ (by rfl)]; exact h1
  | 2, _ => rw [okAt_d _ _ (by rfl)]; exact h2
  | 3, _ => exact okAt_lit_yes _ 58 (by decide) (by decide) (by rw [h3])
  | 4, _ => rw [okAt_d _ _ (by rfl)]; exact h4
  | 5, _ => rw [okAt_d _ _ (by rfl)]; exact h5
  | (n + 6), h => omega

/-- the number of a decimal digit's byte -/
def dv (s : ByteArray) (j : Nat) : Int := ((bt s j).toNat : Int) - 48
theorem dv_bd (s : ByteArray) (j : Nat) (h : isDig (bt s j) = true) : 0 ≤ dv s j ∧ dv s j ≤ 9 := by
  unfold isDig at h; simp only [decide_eq_true_eq] at h; unfold dv; omega
def hrs (s : ByteArray) : Int := dv s 1 * 10 + dv s 2
def mns (s : ByteArray) : Int := dv s 4 * 10 + dv s 5
theorem two_at' (s : ByteArray) (a : Int) (p : Nat) (w : World) (ha : a = p) (hp : p + 1 < s.size) (hs : s.size ≤ maxLen) (h1 : isDig (bt s p) = true) (h2 : isDig (bt s (p + 1)) = true) :
    Calls Try.prog 20 #[.string s, .int .i64 a, .int .i64 2] w fun e w' => e = .returned (.int .i64 (dv s p * 10 + dv s (p + 1))) ∧ w' = w :=
  two_at s a p _ _ w ha hp hs (by rw [bt_eq s p (by omega)]; rfl) (by rw [bt_eq s (p + 1) hp]; rfl) (dv_bd s p h1).1 (dv_bd s p h1).2 (dv_bd s _ h2).1 (dv_bd s _ h2).2

set_option maxHeartbeats 1000000 in
theorem ro_plus (s : ByteArray) (w : World) (hs : s.size ≤ maxLen) (h : hasFormB s plusF = true) :
    Calls Try.prog 18 #[.string s] w fun e w' => e = .returned (.tuple #[.int .i64 (hrs s * 3600 + mns s * 60), .int .i64 (hrs s), .int .i64 (mns s), .bool true]) ∧ ∃ n, w' = w.drewN n := by
  obtain ⟨h6, g0, g1, g2, g3, g4, g5⟩ := form_parts s plusF 43 rfl (by decide) h
  have z1 : ¬ s = zedU := by intro e; rw [e] at h6; cases h6
  have z2 : ¬ s = zedL := by intro e; rw [e] at h6; cases h6
  have h1' : (s.toList == [90]) = false := lit_beq s [90] false (decide_eq_false z1)
  have h2' : (s.toList == [122]) = false := lit_beq s [122] false (decide_eq_false z2)
  have B1 := dv_bd s 1 g1
  have B2 := dv_bd s 2 g2
  have B4 := dv_bd s 4 g4
  have B5 := dv_bd s 5 g5
  have b1 : 0 ≤ hrs s := by unfold hrs; omega
  have b2 : hrs s ≤ 99 := by unfold hrs; omega
  have b3 : 0 ≤ mns s := by unfold mns; omega
  have b4 : mns s ≤ 99 := by unfold mns; omega
  have hl : 5 < s.size := by omega
  have hl0 : 0 < s.size := by omega
  have hc : ((s[0].toNat : Int) == 45) = false := by rw [bt_eq s 0 hl0, g0]; rfl
  have T1 := hide (fun w => two_at' s 1 1 w rfl (by omega) hs g1 g2)
  have T2 := hide (fun w => two_at' s 4 4 w rfl (by omega) hs g4 g5)
  have H := hide h
  clear h h6 g0 g1 g2 g3 g4 g5 z1 z2 B1 B2 B4 B5
  go_enter Try.func18, Try.ntmps18
  go_wp2_with fail
  refine (form_any s plusF _ hs (by decide)).mono ?_
  rintro e w' ⟨rfl, n, rfl⟩
  rw [unhide H]
  go_wp2_with fail
  refine (unhide T1 _).mono ?_
  rintro e w' ⟨rfl, rfl⟩
  go_wp2_with fail
  refine (unhide T2 _).mono ?_
  rintro e w' ⟨rfl, rfl⟩
  rw [show dv s 1 * 10 + dv s (1 + 1) = hrs s from rfl, show dv s 4 * 10 + dv s (4 + 1) = mns s from rfl]
  go_wp2_with fail
  exact bodyPost_ret (v := .tuple #[.int .i64 (hrs s * 3600 + mns s * 60), .int .i64 (hrs s), .int .i64 (mns s), .bool true]) (by simp [results, Try.results18, go_sem]) rfl ⟨rfl, n, rfl⟩
set_option maxHeartbeats 1000000 in
theorem ro_minus (s : ByteArray) (w : World) (hs : s.size ≤ maxLen) (h0 : hasFormB s plusF = false) (h : hasFormB s minusF = true) :
    Calls Try.prog 18 #[.string s] w fun e w' => e = .returned (.tuple #[.int .i64 (-(hrs s * 3600 + mns s * 60)), .int .i64 (hrs s), .int .i64 (mns s), .bool true]) ∧ ∃ n, w' = w.drewN n := by
  obtain ⟨h6, g0, g1, g2, g3, g4, g5⟩ := form_parts s minusF 45 rfl (by decide) h
  have z1 : ¬ s = zedU := by intro e; rw [e] at h6; cases h6
  have z2 : ¬ s = zedL := by intro e; rw [e] at h6; cases h6
  have h1' : (s.toList == [90]) = false := lit_beq s [90] false (decide_eq_false z1)
  have h2' : (s.toList == [122]) = false := lit_beq s [122] false (decide_eq_false z2)
  have B1 := dv_bd s 1 g1
  have B2 := dv_bd s 2 g2
  have B4 := dv_bd s 4 g4
  have B5 := dv_bd s 5 g5
  have b1 : 0 ≤ hrs s := by unfold hrs; omega
  have b2 : hrs s ≤ 99 := by unfold hrs; omega
  have b3 : 0 ≤ mns s := by unfold mns; omega
  have b4 : mns s ≤ 99 := by unfold mns; omega
  have hl : 5 < s.size := by omega
  have hl0 : 0 < s.size := by omega
  have hc : ((s[0].toNat : Int) == 45) = true := by rw [bt_eq s 0 hl0, g0]; rfl
  have T1 := hide (fun w => two_at' s 1 1 w rfl (by omega) hs g1 g2)
  have T2 := hide (fun w => two_at' s 4 4 w rfl (by omega) hs g4 g5)
  have H := hide h
  have H0 := hide h0
  clear h h0 h6 g0 g1 g2 g3 g4 g5 z1 z2 B1 B2 B4 B5
  go_enter Try.func18, Try.ntmps18
  go_wp2_with fail
  refine (form_any s plusF _ hs (by decide)).mono ?_
  rintro e w' ⟨rfl, n, rfl⟩
  rw [unhide H0]
  go_wp2_with fail
  refine (form_any s minusF _ hs (by decide)).mono ?_
  rintro e w' ⟨rfl, m, rfl⟩
  rw [unhide H]
  go_wp2_with fail
  refine (unhide T1 _).mono ?_
  rintro e w' ⟨rfl, rfl⟩
  go_wp2_with fail
  refine (unhide T2 _).mono ?_
  rintro e w' ⟨rfl, rfl⟩
  rw [show dv s 1 * 10 + dv s (1 + 1) = hrs s from rfl, show dv s 4 * 10 + dv s (4 + 1) = mns s from rfl]
  go_wp2_with fail
  exact bodyPost_ret (v := .tuple #[.int .i64 (-(hrs s * 3600 + mns s * 60)), .int .i64 (hrs s), .int .i64 (mns s), .bool true]) (by simp [results, Try.results18, go_sem]) rfl ⟨rfl, n + m, rfl⟩

theorem not_both (s : ByteArray) (h : hasFormB s minusF = true) : hasFormB s plusF = false := by
  cases hp : hasFormB s plusF
  · rfl
  · obtain ⟨_, g0, _⟩ := form_parts s plusF 43 rfl (by decide) hp
    obtain ⟨_, g0', _⟩ := form_parts s minusF 45 rfl (by decide) h
    rw [g0] at g0'; cases g0'

set_option maxHeartbeats 400000 in
theorem zro (s : ByteArray) (a b c : Int) (d : Bool) (w : World)
    (h : Calls Try.prog 18 #[.string s] w fun e w' => e = .returned (.tuple #[.int .i64 a, .int .i64 b, .int .i64 c, .bool d]) ∧ ∃ n, w' = w.drewN n) :
    Calls Try.prog 13 #[.string s] w fun e w' => e = .returned (.tuple #[.int .i64 a, .int .i64 b, .int .i64 c, .bool d]) ∧ ∃ n, w' = w.drewN n := by
  have H := hide h
  clear h
  go_enter Try.func13, Try.ntmps13
  go_wp2_with fail
  refine (unhide H).mono ?_
  rintro e w' ⟨rfl, n, rfl⟩
  go_wp2_with fail
  exact bodyPost_ret (v := .tuple #[.int .i64 a, .int .i64 b, .int .i64 c, .bool d]) (by simp [results, Try.results13, go_sem]) rfl ⟨rfl, n, rfl⟩

/-! ### what zzOffsetText writes -/
theorem off_size (g h m : Int) : (offText g h m).size = 6 := rfl
theorem off_bt0 (g h m : Int) : bt (offText g h m) 0 = UInt8.ofNat g.toNat := rfl
theorem off_bt1 (g h m : Int) : bt (offText g h m) 1 = UInt8.ofNat (48 + h / 10).toNat := rfl
theorem off_bt2 (g h m : Int) : bt (offText g h m) 2 = UInt8.ofNat (48 + h % 10).toNat := rfl
theorem off_bt3 (g h m : Int) : bt (offText g h m) 3 = 58 := rfl
theorem off_bt4 (g h m : Int) : bt (offText g h m) 4 = UInt8.ofNat (48 + m / 10).toNat := rfl
theorem off_bt5 (g h m : Int) : bt (offText g h m) 5 = UInt8.ofNat (48 + m % 10).toNat := rfl
theorem num_byte (n : Int) (h0 : 0 ≤ n) (h1 : n ≤ 255) : ((UInt8.ofNat n.toNat).toNat : Int) = n := by
  rw [UInt8.toNat_ofNat']; omega
theorem dig_byte (n : Int) (h0 : 0 ≤ n) (h1 : n ≤ 9) : isDig (UInt8.ofNat (48 + n).toNat) = true := by
  have := num_byte (48 + n) (by omega) (by omega)
  unfold isDig; simp only [decide_eq_true_eq]; omega
theorem off_form (c : UInt8) (g : Int) (F : ByteArray) (hF : F = ⟨#[c, 100, 100, 58, 100, 100]⟩) (hc : ¬ (c.toNat : Int) = 100 ∧ ¬ (c.toNat : Int) = 84) (hg : UInt8.ofNat g.toNat = c) (h m : Int) (hh0 : 0 ≤ h) (hh1 : h ≤ 99) (hm0 : 0 ≤ m) (hm1 : m ≤ 99) :
    hasFormB (offText g h m) F = true ∧ hrs (offText g h m) = h ∧ mns (offText g h m) = m := by
  refine ⟨form_mk _ F c hF hc rfl (by rw [off_bt0]; exact hg) (by rw [off_bt1]; exact dig_byte _ (by omega) (by omega)) (by rw [off_bt2]; exact dig_byte _ (by omega) (by omega)) rfl (by rw [off_bt4]; exact dig_byte _ (by omega) (by omega)) (by rw [off_bt5]; exact dig_byte _ (by omega) (by omega)), ?_, ?_⟩
  · unfold hrs dv
    rw [off_bt1, off_bt2, num_byte _ (by omega) (by omega), num_byte _ (by omega) (by omega)]
    omega
  · unfold mns dv
    rw [off_bt4, off_bt5, num_byte _ (by omega) (by omega), num_byte _ (by omega) (by omega)]
    omega
end Go.Proofs.Qxb6001436a
