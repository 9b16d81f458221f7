/- slices.stableCmpFunc, slices.SortStableFunc -/
import Derived.Test.Qxb6002619aStable
import Derived.Test.Qxb6002619aBlocks
namespace Go.Proofs.Qxb6002619a
open Go.ChangeShapes Go.WideShapes Go.ChangeAt Go.RowKit
set_option linter.unusedVariables false
set_option linter.unusedSimpArgs false

def StI (w : World) (b n : Nat) (F F1 : Nat → Dg) (wr : World) : Prop := Mem wr b n F1 ∧ Kept b w wr ∧ Mix n F F1 0 n
theorem StI.next {w wr w2 : World} {b n x y : Nat} {F F1 F2 : Nat → Dg} (h : StI w b n F F1 wr) (hy : y ≤ n) (m2 : Mem w2 b n F2) (k2 : Kept b wr w2) (x2 : Mix n F1 F2 x y) : StI w b n F F2 w2 := ⟨m2, h.2.1.trans k2, h.2.2.trans (x2.mono (Nat.zero_le _) hy)⟩

set_option maxRecDepth 100000 in
set_option maxHeartbeats 3200000 in
theorem stable_any (b n c : Nat) (F : Nat → Dg) (w : World) (hn : n ≤ 4096) (hn0 : 0 < n) (hM : Hid (Mem w b n F)) (hP : Hid (PosD n F)) :
    Calls Try.prog 23 #[.slice (some ⟨b, 0, none⟩) n c, .int .i64 (n : Int), .func (.func 18) #[] #[]] w fun e w' => IsPost w b n 0 n F e w' := by
  have hn' : (n : Int) ≤ 4096 := by omega
  go_enter Try.func23, Try.ntmps23
  go_wp2_with fail
  go_loopw [7, 8] (fun i j wr => ∃ (a y : Nat) (F1 : Nat → Dg), a ≤ n ∧ y = a + 20 ∧ i = .int .i64 a ∧ j = .int .i64 y ∧ Hid (StI w b n F F1 wr) ∧ Hid (L1 F1 a)) (fun i _ _ => n - (intOf i).toNat)
  case atStart => exact ⟨0, 20, F, Nat.zero_le _, rfl, rfl, rfl, hide ⟨unhide hM, Kept.refl _ _, Mix.refl _ _ _ _⟩, hide (L1.start F)⟩
  case round =>
    clear hM
    obtain ⟨a, y, F1, ha, hya, rfl, rfl, HI, HL⟩ := hrel
    have y' : (y : Int) ≤ 8192 := by omega
    by_cases hlt : y ≤ n
    · have hlt' : (y : Int) ≤ (n : Int) := by omega
      have C := hide (insertion_any b n c a y F1 wr hn hn0 (hide (unhide HI).1) (by omega) hlt (hide ((unhide HI).2.2.pos (Nat.le_refl n) (unhide hP))))
      have Hya := hide hya
      clear hya
      go_wp2_with fail
      refine (unhide C).mono ?_
      rintro e w2 ⟨F2, ⟨rfl, m2, k2⟩, x2, s2⟩
      have HI2 := hide ((unhide HI).next hlt m2 k2 x2)
      have HL2 : Hid (L1 F2 y) := hide (by have e := unhide Hya; subst e; exact (unhide HL).step x2 s2)
      clear m2 k2 x2 s2 C HI HL
      go_wp2_with fail
      go_roundw
      case rel => exact ⟨y, y + 20, F2, hlt, rfl, rfl, by go_num, HI2, HL2⟩
      case measure => simp [intOf]; have := unhide Hya; omega
    · have hlt' : (n : Int) < (y : Int) := by omega
      have C := hide (insertion_any b n c a n F1 wr hn hn0 (hide (unhide HI).1) ha (Nat.le_refl _) (hide ((unhide HI).2.2.pos (Nat.le_refl n) (unhide hP))))
      have Hya := hide hya
      clear hya
      go_wp2_with fail
      refine (unhide C).mono ?_
      rintro e w2 ⟨F2, ⟨rfl, m2, k2⟩, x2, s2⟩
      have HI2 := hide ((unhide HI).next (Nat.le_refl _) m2 k2 x2)
      have HL2 : Hid (BSf F2 20 0 n) := hide ((unhide HL).stop x2 s2 (by have := unhide Hya; omega))
      clear m2 k2 x2 s2 C HI HL
      go_wp2_with fail
      go_loopw [6] (fun i wr => ∃ (s : Nat) (F1 : Nat → Dg), 20 ≤ s ∧ s ≤ 8192 ∧ i = .int .i64 s ∧ Hid (StI w b n F F1 wr) ∧ Hid (BSf F1 s 0 n)) (fun i _ => n - (intOf i).toNat)
      case atStart => exact ⟨20, F2, by omega, by omega, rfl, HI2, HL2⟩
      case round =>
        clear HI2 HL2 Hya ha hlt hlt' y'
        obtain ⟨s, F3, hs1, hs2, rfl, HI, HL⟩ := hrel
        have s1' : (20 : Int) ≤ (s : Int) := by omega
        have s2' : (s : Int) ≤ 8192 := by omega
        by_cases hsn : s < n
        · have hsn' : (s : Int) < (n : Int) := by omega
          obtain ⟨t, ht⟩ : ∃ t, t = 2 * s := ⟨_, rfl⟩
          have w1 : IntKind.i64.wrap (2 * (s : Int)) = (t : Int) := by rw [IntKind.wrap_i64]; omega
          have w2 : IntKind.i64.wrap ((s : Int) * 2) = (t : Int) := by rw [IntKind.wrap_i64]; omega
          have t1 : (t : Int) ≤ 16384 := by omega
          have t2 : (0 : Int) ≤ (t : Int) := by omega
          have Ht := hide ht
          clear ht
          go_wp2_with fail
          go_loopw [7, 8] (fun i j wr => ∃ (a y : Nat) (F1 : Nat → Dg), a ≤ n ∧ y = a + t ∧ i = .int .i64 a ∧ j = .int .i64 y ∧ Hid (StI w b n F F1 wr) ∧ Hid (L3 F1 n s a)) (fun i _ _ => n - (intOf i).toNat)
          case atStart => exact ⟨0, t, F3, Nat.zero_le _, by omega, rfl, by go_num, HI, hide (L3.start (unhide HL))⟩
          case round =>
            clear HI HL
            obtain ⟨a, y, F4, ha, hya, rfl, rfl, HI, HL⟩ := hrel
            have y' : (y : Int) ≤ 20480 := by omega
            have hts := unhide Ht
            have Heas : Hid ((a : Int) + (s : Int) = ((a + s : Nat) : Int)) := hide (by omega)
            have eas2 : (0 : Int) ≤ (a : Int) + (s : Int) := by omega
            have eas' : (a : Int) + (s : Int) ≤ 16384 := by omega
            by_cases hlt : y ≤ n
            · have hlt' : (y : Int) ≤ (n : Int) := by omega
              have C : Hid (Calls Try.prog 26 #[.slice (some ⟨b, 0, none⟩) n c, .int .i64 (a : Int), .int .i64 ((a : Int) + (s : Int)), .int .i64 (y : Int), .func (.func 18) #[] #[]] wr fun e w' => IsPost wr b n a y F4 e w') := hide (by rw [unhide Heas]; exact sym_any b n c hn (y - a + 1) a (a + s) y F4 wr (by omega) (unhide HI).1 (by omega) (by omega) hlt ((unhide HI).2.2.pos (Nat.le_refl n) (unhide hP)) ((unhide HL).left (Nat.le_refl _) (by omega)) ((unhide HL).right (by omega) hlt))
              have Hya := hide hya
              clear hya hts
              go_wp2_with fail
              refine (unhide C).mono ?_
              rintro e w4 ⟨F5, ⟨rfl, m2, k2⟩, x2, s2⟩
              have HI2 := hide ((unhide HI).next hlt m2 k2 x2)
              have HL2 : Hid (L3 F5 n s y) := hide (by have e := unhide Hya; have e2 := unhide Ht; subst e; subst e2; exact (unhide HL).step x2 s2)
              clear m2 k2 x2 s2 C HI HL
              go_wp2_with fail
              go_roundw
              case rel => exact ⟨y, y + t, F5, hlt, rfl, rfl, by go_num, HI2, HL2⟩
              case measure => simp [intOf]; have := unhide Hya; have := unhide Ht; omega
            · have hlt' : (n : Int) < (y : Int) := by omega
              have Hya := hide hya
              clear hya hts
              by_cases hmn : a + s < n
              · have hmn' : (a : Int) + (s : Int) < (n : Int) := by omega
                have C : Hid (Calls Try.prog 26 #[.slice (some ⟨b, 0, none⟩) n c, .int .i64 (a : Int), .int .i64 ((a : Int) + (s : Int)), .int .i64 (n : Int), .func (.func 18) #[] #[]] wr fun e w' => IsPost wr b n a n F4 e w') := hide (by rw [unhide Heas]; exact sym_any b n c hn (n - a + 1) a (a + s) n F4 wr (by omega) (unhide HI).1 (by omega) hmn (Nat.le_refl _) ((unhide HI).2.2.pos (Nat.le_refl n) (unhide hP)) ((unhide HL).left (Nat.le_refl _) (by omega)) ((unhide HL).right (by have := unhide Hya; have := unhide Ht; omega) (Nat.le_refl _)))
                go_wp2_with fail
                refine (unhide C).mono ?_
                rintro e w4 ⟨F5, ⟨rfl, m2, k2⟩, x2, s2⟩
                have HI2 := hide ((unhide HI).next (Nat.le_refl _) m2 k2 x2)
                have HL2 : Hid (BSf F5 t 0 n) := hide (by have e2 := unhide Ht; subst e2; exact (unhide HL).stop x2 s2 (by have := unhide Hya; have := unhide Ht; omega))
                clear m2 k2 x2 s2 C HI HL
                go_wp2_with fail
                go_roundw
                case rel => exact ⟨t, F5, by have := unhide Ht; omega, by have := unhide Ht; omega, by go_num, HI2, HL2⟩
                case measure => simp [intOf]; have := unhide Ht; omega
              · have hmn' : (n : Int) ≤ (a : Int) + (s : Int) := by omega
                have HL2 : Hid (BSf F4 t 0 n) := hide (by have e2 := unhide Ht; subst e2; exact (unhide HL).stop (Mix.refl n F4 a n) ((unhide HL).left (by omega) (Nat.le_refl _)) (by have := unhide Hya; have := unhide Ht; omega))
                clear HL
                go_wp2_with fail
                go_roundw
                case rel => exact ⟨t, F4, by have := unhide Ht; omega, by have := unhide Ht; omega, by go_num, HI, HL2⟩
                case measure => simp [intOf]; have := unhide Ht; omega
        · have hsn' : (n : Int) ≤ (s : Int) := by omega
          go_wp2_with fail
          first | go_end0 | refine bodyPost_ret (results_none rfl _ _ _) rfl ?_
          exact ⟨F3, ⟨rfl, (unhide HI).1, (unhide HI).2.1⟩, (unhide HI).2.2, (unhide HL).end_ (by omega)⟩

set_option maxRecDepth 100000 in
set_option maxHeartbeats 3200000 in
theorem insertion_nil (a : Option Addr) (c : Nat) (w : World) :
    Calls Try.prog 25 #[.slice a 0 c, .int .i64 0, .int .i64 0, .func (.func 18) #[] #[]] w fun e w' => e = .returned (.tuple #[]) ∧ w' = w := by
  go_enter Try.func25, Try.ntmps25
  go_wp2_with fail
  go_loopw [8] (fun i wr => i = .int .i64 1 ∧ wr = w) (fun _ _ => 0)
  case atStart => exact ⟨rfl, rfl⟩
  case round =>
    obtain ⟨rfl, rfl⟩ := hrel
    go_wp2_with fail
    first | go_end0 | refine bodyPost_ret (results_none rfl _ _ _) rfl ?_
    exact ⟨rfl, rfl⟩
set_option maxRecDepth 100000 in
set_option maxHeartbeats 3200000 in
/-- nothing to sort -/
theorem stable_nil (a : Option Addr) (c : Nat) (w : World) :
    Calls Try.prog 23 #[.slice a 0 c, .int .i64 0, .func (.func 18) #[] #[]] w fun e w' => e = .returned (.tuple #[]) ∧ w' = w := by
  have C := hide (insertion_nil a c w)
  go_enter Try.func23, Try.ntmps23
  go_wp2_with fail
  go_loopw [7, 8] (fun i j wr => i = .int .i64 0 ∧ j = .int .i64 20 ∧ wr = w) (fun _ _ _ => 0)
  case atStart => exact ⟨rfl, rfl, rfl⟩
  case round =>
    obtain ⟨rfl, rfl, rfl⟩ := hrel
    go_wp2_with fail
    refine (unhide C).mono ?_
    rintro e w2 ⟨rfl, rfl⟩
    go_wp2_with fail
    go_loopw [6] (fun i wr => i = .int .i64 20 ∧ wr = w2) (fun _ _ => 0)
    case atStart => exact ⟨rfl, rfl⟩
    case round =>
      obtain ⟨rfl, rfl⟩ := hrel
      go_wp2_with fail
      first | go_end0 | refine bodyPost_ret (results_none rfl _ _ _) rfl ?_
      exact ⟨rfl, rfl⟩
set_option maxHeartbeats 800000 in
theorem sort17 (b n c : Nat) (F : Nat → Dg) (w : World) (hn : n ≤ 4096) (hn0 : 0 < n) (hM : Hid (Mem w b n F)) (hP : Hid (PosD n F)) :
    Calls Try.prog 17 #[.slice (some ⟨b, 0, none⟩) n c, .func (.func 18) #[] #[]] w fun e w' => IsPost w b n 0 n F e w' := by
  have C := hide (stable_any b n c F w hn hn0 hM hP)
  clear hM hP
  go_enter Try.func17, Try.ntmps17
  go_wp2_with fail
  refine (unhide C).mono ?_
  rintro e w2 ⟨F2, ⟨rfl, m2, k2⟩, x2, s2⟩
  have H : Hid (IsPost w b n 0 n F (.returned (.tuple #[])) w2) := hide ⟨F2, ⟨rfl, m2, k2⟩, x2, s2⟩
  clear m2 k2 x2 s2
  go_wp2_with fail
  first | go_end0 | refine bodyPost_ret (results_none rfl _ _ _) rfl ?_
  exact unhide H
set_option maxHeartbeats 800000 in
theorem sort17_nil (a : Option Addr) (c : Nat) (w : World) :
    Calls Try.prog 17 #[.slice a 0 c, .func (.func 18) #[] #[]] w fun e w' => e = .returned (.tuple #[]) ∧ w' = w := by
  have C := hide (stable_nil a c w)
  go_enter Try.func17, Try.ntmps17
  go_wp2_with fail
  refine (unhide C).mono ?_
  rintro e w2 ⟨rfl, rfl⟩
  go_wp2_with fail
  first | go_end0 | refine bodyPost_ret (results_none rfl _ _ _) rfl ?_
  exact ⟨rfl, rfl⟩
end Go.Proofs.Qxb6002619a
