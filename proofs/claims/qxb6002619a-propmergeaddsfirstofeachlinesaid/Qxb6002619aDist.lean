/- zzDistinctPos, zzSame, Len, Shown -/
import Derived.Test.Qxb6002619aDiag
namespace Go.Proofs.Qxb6002619a
open Go.ChangeShapes Go.WideShapes Go.ChangeAt Go.RowKit
set_option linter.unusedVariables false
set_option linter.unusedSimpArgs false

theorem below_drewN {B : Nat} {W W' : World} (h : Below B W W') (n : Nat) : Below B W (W'.drewN n) := ⟨h.os, h.tape, h.output, h.size, h.block⟩
def DpPost (n : Nat) (f : Nat → Dg) (w : World) (e : Ending) (w' : World) : Prop :=
  ∃ r : Bool, e = .returned (.bool r) ∧ (r = true → (∀ i, i < n → 0 < (f i).fl) ∧ ∀ i, i < n → ∀ j, j < i → (f j).fl ≠ (f i).fl) ∧ Below w.heap.size w w'
set_option maxRecDepth 100000 in
set_option maxHeartbeats 1600000 in
theorem distinct_any (a : Option Addr) (b o n c : Nat) (f : Nat → Dg) (w : World) (hn2 : n ≤ 4096) (ha : Hid (0 < n → a = some ⟨b, o, none⟩)) (hd : Hid (∀ i, i < n → DAt w b o i (f i))) (hb : Hid (0 < n → b < w.heap.size)) :
    Calls Try.prog 5 #[.slice a n c] w fun e w' => DpPost n f w e w' := by
  have hn' : (n : Int) ≤ 4096 := by omega
  go_enter Try.func5, Try.ntmps5
  go_wp2_with fail
  go_loopw [3] (fun i wr => ∃ k : Nat, k ≤ n ∧ i = .int .i64 k ∧ Hid (∀ i, i < k → 0 < (f i).fl) ∧ Hid (∀ i, i < k → ∀ j, j < i → (f j).fl ≠ (f i).fl) ∧ Hid (Below w.heap.size w wr)) (fun i _ => n - (intOf i).toNat)
  case atStart => exact ⟨0, Nat.zero_le _, rfl, hide (fun k hk => absurd hk (Nat.not_lt_zero k)), hide (fun k hk => absurd hk (Nat.not_lt_zero k)), hide (Below.refl _ _)⟩
  case round =>
    obtain ⟨k, hk, rfl, H1, H2, HB⟩ := hrel
    by_cases hlt : k < n
    · have ea := unhide ha (by omega)
      subst ea
      have hlt' : (k : Int) < (n : Int) := by omega
      obtain ⟨d1, d2, d3, d4⟩ := (unhide hd k hlt).below (unhide HB) (unhide hb (by omega))
      clear d1 d3 d4
      by_cases hf : (f k).fl ≤ 0
      · go_wp2_with fail
        go_ret
        exact ⟨false, rfl, fun h => absurd h (by decide), unhide HB⟩
      · have hf' : 0 < (f k).fl := by omega
        clear hf
        go_wp2_with fail
        go_loopw [4] (fun i wr => ∃ l : Nat, l ≤ k ∧ i = .int .i64 l ∧ Hid (∀ j, j < l → (f j).fl ≠ (f k).fl) ∧ Hid (Below w.heap.size w wr)) (fun i _ => k - (intOf i).toNat)
        case atStart => exact ⟨0, Nat.zero_le _, rfl, hide (fun k hk => absurd hk (Nat.not_lt_zero k)), HB⟩
        case round =>
          obtain ⟨l, hl, rfl, H3, HB3⟩ := hrel
          by_cases hlk : l < k
          · have hlk' : (l : Int) < (k : Int) := by omega
            have hln : l < n := by omega
            have hln' : (l : Int) < (n : Int) := by omega
            obtain ⟨d1, d2', d3, d4⟩ := (unhide hd k hlt).below (unhide HB3) (unhide hb (by omega))
            clear d1 d3 d4
            obtain ⟨d1, d2'', d3, d4⟩ := (unhide hd l (by omega)).below (unhide HB3) (unhide hb (by omega))
            clear d1 d3 d4
            by_cases he : (f l).fl = (f k).fl
            · go_wp2_with fail
              go_quiet (fail)
              go_wp2_with fail
              go_ret
              exact ⟨false, rfl, fun h => absurd h (by decide), (below_drewN (unhide HB3) _)⟩
            · go_wp2_with fail
              go_quiet (fail)
              go_wp2_with fail
              go_roundw
              case rel => exact ⟨l + 1, by omega, by go_num, hide (fun j hj => by
                by_cases e : j = l
                · subst e; exact he
                · exact unhide H3 j (by omega)), hide (below_drewN (unhide HB3) _)⟩
              case measure => simp [intOf]; omega
          · go_wp2_with fail
            go_roundw
            case rel => exact ⟨k + 1, by omega, by go_num, hide (fun i hi => by
                by_cases e : i = k
                · subst e; exact hf'
                · exact unhide H1 i (by omega)), hide (fun i hi j hj => by
                by_cases e : i = k
                · subst e; exact unhide H3 j (by omega)
                · exact unhide H2 i (by omega) j hj), HB3⟩
            case measure => simp [intOf]; omega
    · go_wp2_with fail
      go_ret
      exact ⟨true, rfl, fun _ => ⟨fun i hi => unhide H1 i (by omega), fun i hi j hj => unhide H2 i (by omega) j hj⟩, unhide HB⟩
set_option maxHeartbeats 400000 in
theorem len_any (lb : Nat) (v : Value) (cnt : Int) (w : World) (hlb : blkOf w lb = [v, .int .i64 cnt]) : Calls Try.prog 7 #[.pointer (some ⟨lb, 0, none⟩)] w fun e w' => e = .returned (.int .i64 cnt) ∧ w' = w := by
  have g1 : w.cell? ⟨lb, 1, none⟩ = some (.int .i64 cnt) := by rw [blk_cell (by rw [hlb]; simp), hlb]; rfl
  go_enter Try.func7, Try.ntmps7
  go_wp2
  go_ret
  exact ⟨rfl, rfl⟩
set_option maxHeartbeats 400000 in
theorem shown_any (lb : Nat) (a : Option Addr) (n c : Nat) (cnt : Int) (w : World) (hlb : blkOf w lb = [.slice a n c, .int .i64 cnt]) : Calls Try.prog 10 #[.pointer (some ⟨lb, 0, none⟩)] w fun e w' => e = .returned (.slice a n c) ∧ w' = w := by
  have g1 : w.cell? ⟨lb, 0, none⟩ = some (.slice a n c) := by rw [blk_cell (by rw [hlb]; simp), hlb]; rfl
  go_enter Try.func10, Try.ntmps10
  go_wp2
  go_ret
  exact ⟨rfl, rfl⟩
set_option maxRecDepth 100000 in
set_option maxHeartbeats 1600000 in
theorem same_any (a1 a2 : Option Addr) (b1 o1 b2 o2 n c1 c2 : Nat) (f : Nat → Dg) (w : World) (hn2 : n ≤ 4096) (ha1 : Hid (0 < n → a1 = some ⟨b1, o1, none⟩)) (ha2 : Hid (0 < n → a2 = some ⟨b2, o2, none⟩)) (hd1 : Hid (∀ i, i < n → DAt w b1 o1 i (f i))) (hd2 : Hid (∀ i, i < n → DAt w b2 o2 i (f i))) (hb : Hid (0 < n → b1 < w.heap.size ∧ b2 < w.heap.size)) :
    Calls Try.prog 11 #[.slice a1 n c1, .slice a2 n c2] w fun e w' => e = .returned (.bool true) ∧ Below w.heap.size w w' := by
  have hn' : (n : Int) ≤ 4096 := by omega
  go_enter Try.func11, Try.ntmps11
  go_wp2_with fail
  go_loopw [5] (fun i wr => ∃ k : Nat, k ≤ n ∧ i = .int .i64 k ∧ Hid (Below w.heap.size w wr)) (fun i _ => n - (intOf i).toNat)
  case atStart => exact ⟨0, Nat.zero_le _, rfl, hide (Below.refl _ _)⟩
  case round =>
    obtain ⟨k, hk, rfl, HB⟩ := hrel
    by_cases hlt : k < n
    · have ea1 := unhide ha1 (by omega)
      subst ea1
      have ea2 := unhide ha2 (by omega)
      subst ea2
      have hlt' : (k : Int) < (n : Int) := by omega
      obtain ⟨d1, d2, d3, d4⟩ := (unhide hd1 k hlt).below (unhide HB) (unhide hb (by omega)).1
      obtain ⟨e1, e2, e3, e4⟩ := (unhide hd2 k hlt).below (unhide HB) (unhide hb (by omega)).2
      generalize f k = x at *
      go_wp2_with fail
      go_quiet (fail)
      go_wp2_with fail
      go_roundw
      case rel => exact ⟨k + 1, by omega, by go_num, hide (below_drewN (unhide HB) _)⟩
      case measure => simp [intOf]; omega
    · go_wp2_with fail
      go_ret
      exact ⟨rfl, unhide HB⟩
end Go.Proofs.Qxb6002619a
