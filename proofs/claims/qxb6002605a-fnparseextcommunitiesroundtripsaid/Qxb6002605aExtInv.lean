/- the law's walk -/
import Derived.Test.Qxb6002605aParse
namespace Go.Proofs.Qxb6002605a
open Go.ChangeShapes Go.WideShapes Go.ChangeAt Go.RowKit
set_option linter.unusedVariables false
set_option linter.unusedSimpArgs false

theorem ebytes_yes (a0 a1 : Option Addr) (n0 c0 n1 c1 : Nat) (w : World) (h : n0 + n1 ≤ 1048576) :
    Calls Try.prog 17 #[.slice a0 n0 c0, .slice a1 n1 c1] w fun e w' => e = .returned (.bool true) ∧ w' = w := by
  have h1 : (n0 : Int) + (n1 : Int) ≤ 1048576 := by omega
  have h2 : (n0 : Int) ≤ 1048576 := by omega
  have h3 : (n1 : Int) ≤ 1048576 := by omega
  go_enter Try.func17, Try.ntmps17
  go_wp2
  go_ret
  exact ⟨rfl, rfl⟩
theorem ebytes_no (a0 a1 : Option Addr) (n0 c0 n1 c1 : Nat) (w : World) (w0 : n0 ≤ maxLen) (w1 : n1 ≤ maxLen) (h : ¬ n0 + n1 ≤ 1048576) :
    Calls Try.prog 17 #[.slice a0 n0 c0, .slice a1 n1 c1] w fun e w' => e = .returned (.bool false) ∧ w' = w := by
  unfold maxLen at w0 w1
  by_cases h1 : (1048576 : Int) < (n0 : Int)
  · go_enter Try.func17, Try.ntmps17
    go_wp2
    go_ret
    exact ⟨rfl, rfl⟩
  · by_cases h2 : (1048576 : Int) < (n1 : Int)
    · go_enter Try.func17, Try.ntmps17
      go_wp2
      go_ret
      exact ⟨rfl, rfl⟩
    · have h3 : (1048576 : Int) < (n0 : Int) + (n1 : Int) := by omega
      go_enter Try.func17, Try.ntmps17
      go_wp2
      go_ret
      exact ⟨rfl, rfl⟩

/-- what holds of the world behind k rounds of a copying loop: block vb (laid at W) holds what was copied -/
def CInv (W : World) (n : Nat) (f : Nat → Int) (k : Nat) (wr : World) : Prop :=
  (∃ g, blkOf wr W.heap.size = arr n g ∧ ∀ j, j < k → g j = f j) ∧ Below W.heap.size W wr ∧ W.heap.size < wr.heap.size
theorem CInv_start (W : World) (n : Nat) (f : Nat → Int) : CInv W n f 0 (W.alloc (.cells (arr n zf).toArray 5)) :=
  ⟨⟨zf, by rw [blk_alloc, if_pos rfl], fun j hj => absurd hj (Nat.not_lt_zero j)⟩, (Below.refl _ _).alloc (Nat.le_refl _) _, by simp⟩
theorem CInv_step (W : World) (n : Nat) (f : Nat → Int) (k : Nat) (wr : World) (h : CInv W n f k wr) : CInv W n f (k + 1) (wr.setCell ⟨W.heap.size, k, none⟩ (.int .u8 (f k))) := by
  obtain ⟨⟨g, h1, h2⟩, h3, h4⟩ := h
  refine ⟨⟨fun j => if j = k then f k else g j, by rw [blk_setCell, if_pos rfl, h1, arr_set], fun j hj => ?_⟩, h3.setCell (p := ⟨_, _, _⟩) (Nat.le_refl _) _, by simpa [World.setCell] using h4⟩
  by_cases e : j = k
  · subst e; simp
  · simp only [if_neg e]; exact h2 j (by omega)
theorem CInv_end (W : World) (n : Nat) (f : Nat → Int) (k : Nat) (wr : World) (h : CInv W n f k wr) (hk : n ≤ k) : blkOf wr W.heap.size = arr n f := by
  obtain ⟨⟨g, h1, h2⟩, _⟩ := h
  rw [h1]; exact arr_congr fun j hj => h2 j (by omega)

/-- the like for the list of communities: K cells are filled -/
def EInv (W : World) (m : Nat) (f : Nat → Int) (K : Nat) (wr : World) : Prop :=
  (∃ g, blkOf wr W.heap.size = arr (m * 8) g ∧ ∀ j, j < K → g j = f j) ∧ Below W.heap.size W wr ∧ W.heap.size < wr.heap.size
theorem EInv_start (W : World) (m : Nat) (f : Nat → Int) : EInv W m f 0 (W.alloc (.cells (arr (m * 8) zf).toArray 40)) :=
  ⟨⟨zf, by rw [blk_alloc, if_pos rfl], fun j hj => absurd hj (Nat.not_lt_zero j)⟩, (Below.refl _ _).alloc (Nat.le_refl _) _, by simp⟩
theorem EInv_step (W : World) (m : Nat) (f : Nat → Int) (K : Nat) (wr : World) (h : EInv W m f K wr) : EInv W m f (K + 1) (wr.setCell ⟨W.heap.size, K, none⟩ (.int .u8 (f K))) := by
  obtain ⟨⟨g, h1, h2⟩, h3, h4⟩ := h
  refine ⟨⟨fun j => if j = K then f K else g j, by rw [blk_setCell, if_pos rfl, h1, arr_set], fun j hj => ?_⟩, h3.setCell (p := ⟨_, _, _⟩) (Nat.le_refl _) _, by simpa [World.setCell] using h4⟩
  by_cases e : j = K
  · subst e; simp
  · simp only [if_neg e]; exact h2 j (by omega)
theorem EInv_drew {W : World} {m : Nat} {f : Nat → Int} {K : Nat} {wr : World} (h : EInv W m f K wr) : EInv W m f K wr.drew := ⟨h.1, h.2.1.drew, h.2.2⟩
theorem EInv_end (W : World) (m : Nat) (f : Nat → Int) (K : Nat) (wr : World) (h : EInv W m f K wr) (hk : m * 8 ≤ K) : blkOf wr W.heap.size = arr (m * 8) f := by
  obtain ⟨⟨g, h1, h2⟩, _⟩ := h
  rw [h1]; exact arr_congr fun j hj => h2 j (by omega)

theorem zparse_no (ab : Nat) (v : Option Addr) (n c : Nat) (w : World) (hn : n ≤ 1048576) (h : n = 0 ∨ ¬ n % 8 = 0) :
    Calls Try.prog 18 #[.pointer (some ⟨ab, 0, none⟩), .slice v n c] w fun e w' => e = .returned (.int .u8 11) ∧ w' = w := by
  go_enter Try.func18, Try.ntmps18
  go_wp2_with fail
  refine (parse_no ab v n c _ hn h).mono ?_
  rintro e w' ⟨rfl, rfl⟩
  go_wp2
  go_ret
  exact ⟨rfl, rfl⟩
theorem zparse_ok (ab vb m N : Nat) (f : Nat → Int) (X : Value) (w : World) (hN : N = 8 * m) (hm : 0 < m) (hm2 : N ≤ 1048576) (hv : blkOf w vb = arr N f) (ha : blkOf w ab = attL X) (hlt : vb < ab) :
    Calls Try.prog 18 #[.pointer (some ⟨ab, 0, none⟩), .slice (some ⟨vb, 0, none⟩) N N] w fun e w' => e = .returned (.int .u8 0) ∧
      ∃ nb, blkOf w' nb = arr (m * 8) f ∧ blkOf w' ab = attL (.slice (some ⟨nb, 0, none⟩) m m) ∧ w.heap.size ≤ nb ∧ Below ab w w' := by
  subst hN
  have H := hide (parse_ok ab vb m f X w hm hm2 hv ha hlt)
  clear hv ha
  go_enter Try.func18, Try.ntmps18
  go_wp2_with fail
  refine (unhide H).mono ?_
  rintro e w' ⟨rfl, h⟩
  go_wp2
  go_ret
  exact ⟨rfl, h⟩
end Go.Proofs.Qxb6002605a
