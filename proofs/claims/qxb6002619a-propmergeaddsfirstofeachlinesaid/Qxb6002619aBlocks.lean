/- blocks that are sorted, plainly -/
import Derived.Test.Qxb6002619aStab
namespace Go.Proofs.Qxb6002619a
set_option linter.unusedVariables false
set_option linter.unusedSimpArgs false

/-- the blocks of s, from block i on, below n, are sorted -/
def BSf (F : Nat → Dg) (s i n : Nat) : Prop := ∀ j p q, i ≤ j → j * s ≤ p → p < q → q < j * s + s → q < n → (F p).fl ≤ (F q).fl
def BSt (F : Nat → Dg) (s i : Nat) : Prop := ∀ j, j < i → Srt F (j * s) (j * s + s)
theorem blk_le {j i s : Nat} (h : j < i) : j * s + s ≤ i * s := by
  have := Nat.mul_le_mul_right s (show j + 1 ≤ i from h)
  rwa [Nat.add_mul, Nat.one_mul] at this
theorem Srt.out {F F2 : Nat → Dg} {n x y a b : Nat} (h : Srt F a b) (hm : Mix n F F2 x y) (hb : b ≤ x) : Srt F2 a b := by
  intro p q h1 h2 h3
  rw [hm.out p (by omega), hm.out q (by omega)]
  exact h p q h1 h2 h3
theorem BSt.step {F F2 : Nat → Dg} {n s i y : Nat} (h : BSt F s i) (hm : Mix n F F2 (i * s) y) (hs : Srt F2 (i * s) (i * s + s)) : BSt F2 s (i + 1) := by
  intro j hj
  by_cases e : j = i
  · subst e; exact hs
  · exact (h j (by omega)).out hm (blk_le (by omega))
theorem BSt.whole {F F2 : Nat → Dg} {n s i y : Nat} (h : BSt F s i) (hm : Mix n F F2 (i * s) y) (hs : Srt F2 (i * s) n) (hn : n ≤ i * s + s) : BSf F2 s 0 n := by
  intro j p q _ h1 h2 h3 h4
  by_cases c : j < i
  · exact (h j c).out hm (blk_le c) p q h1 h2 h3
  · by_cases e : j = i
    · subst e; exact hs p q h1 h2 h4
    · have := blk_le (s := s) (show i < j by omega)
      omega
/-- blocks of 20 are being sorted; a is where the next begins -/
def L1 (F : Nat → Dg) (a : Nat) : Prop := ∃ i, a = i * 20 ∧ BSt F 20 i
theorem L1.start (F : Nat → Dg) : L1 F 0 := ⟨0, rfl, fun j hj => by omega⟩
theorem L1.step {F F2 : Nat → Dg} {n a : Nat} (h : L1 F a) (hm : Mix n F F2 a (a + 20)) (hs : Srt F2 a (a + 20)) : L1 F2 (a + 20) := by
  obtain ⟨i, rfl, h⟩ := h
  exact ⟨i + 1, by omega, h.step hm hs⟩
theorem L1.stop {F F2 : Nat → Dg} {n a : Nat} (h : L1 F a) (hm : Mix n F F2 a n) (hs : Srt F2 a n) (hn : n ≤ a + 20) : BSf F2 20 0 n := by
  obtain ⟨i, rfl, h⟩ := h
  exact h.whole hm hs hn
/-- blocks of s are being merged by twos -/
def L3 (F : Nat → Dg) (n s a : Nat) : Prop := ∃ i, a = i * (2 * s) ∧ BSt F (2 * s) i ∧ BSf F s (2 * i) n
theorem two_mul_s (i s : Nat) : 2 * i * s = i * (2 * s) := by rw [Nat.mul_comm 2 i, Nat.mul_assoc]
theorem L3.start {F : Nat → Dg} {n s : Nat} (h : BSf F s 0 n) : L3 F n s 0 := ⟨0, by simp, fun j hj => by omega, h⟩
theorem L3.left {F : Nat → Dg} {n s a m : Nat} (h : L3 F n s a) (hm : m ≤ a + s) (hn : m ≤ n) : Srt F a m := by
  obtain ⟨i, rfl, _, h⟩ := h
  intro p q h1 h2 h3
  have e := two_mul_s i s
  exact h (2 * i) p q (Nat.le_refl _) (by omega) h2 (by omega) (by omega)
theorem L3.right {F : Nat → Dg} {n s a y : Nat} (h : L3 F n s a) (hy : y ≤ a + 2 * s) (hn : y ≤ n) : Srt F (a + s) y := by
  obtain ⟨i, rfl, _, h⟩ := h
  intro p q h1 h2 h3
  have e := two_mul_s i s
  have e2 : (2 * i + 1) * s = 2 * i * s + s := by rw [Nat.add_mul, Nat.one_mul]
  exact h (2 * i + 1) p q (by omega) (by omega) h2 (by omega) (by omega)
theorem L3.step {F F2 : Nat → Dg} {n s a : Nat} (h : L3 F n s a) (hm : Mix n F F2 a (a + 2 * s)) (hs : Srt F2 a (a + 2 * s)) : L3 F2 n s (a + 2 * s) := by
  obtain ⟨i, rfl, h1, h2⟩ := h
  refine ⟨i + 1, by rw [Nat.add_mul, Nat.one_mul], h1.step hm hs, fun j p q g1 g2 g3 g4 g5 => ?_⟩
  have e := two_mul_s i s
  have e2 : (2 * i + 2) * s = 2 * i * s + 2 * s := by rw [Nat.add_mul]
  have e3 := Nat.mul_le_mul_right s (show 2 * i + 2 ≤ j by omega)
  rw [hm.out p (by omega), hm.out q (by omega)]
  exact h2 j p q (by omega) g2 g3 g4 g5
theorem L3.stop {F F2 : Nat → Dg} {n s a : Nat} (h : L3 F n s a) (hm : Mix n F F2 a n) (hs : Srt F2 a n) (hn : n ≤ a + 2 * s) : BSf F2 (2 * s) 0 n := by
  obtain ⟨i, rfl, h, _⟩ := h
  exact h.whole hm hs hn
theorem BSf.end_ {F : Nat → Dg} {s n : Nat} (h : BSf F s 0 n) (hn : n ≤ s) : Srt F 0 n := fun p q h1 h2 h3 => h 0 p q (Nat.le_refl _) (by omega) h2 (by omega) h3
end Go.Proofs.Qxb6002619a
