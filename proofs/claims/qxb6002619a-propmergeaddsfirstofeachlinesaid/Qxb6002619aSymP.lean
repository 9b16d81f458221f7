/- symMerge's general arm, plainly -/
import Derived.Test.Qxb6002619aStab
namespace Go.Proofs.Qxb6002619a
set_option linter.unusedVariables false
set_option linter.unusedSimpArgs false

/-- the place s at which the two sides are cut; e = N - s -/
structure Cut (F : Nat → Dg) (x m y mid s e : Nat) : Prop where
  xs : x ≤ s
  sm : s ≤ m
  me : m ≤ e
  ey : e ≤ y
  sum : s + e = mid + m
  strict : ∀ i j, s ≤ i → i < m → m ≤ j → j < e → (F j).fl < (F i).fl
  cross : ∀ i j, x ≤ i → i < s → e ≤ j → j < y → (F i).fl ≤ (F j).fl
theorem cut_of (F : Nat → Dg) (x m y mid s0 r0 s : Nat) (hs1 : Srt F x m) (hs2 : Srt F m y) (h0 : x ≤ s0) (h1 : s0 ≤ s) (h2 : s ≤ r0) (h3 : r0 ≤ m) (h4 : m + r0 ≤ mid + m) (h5 : mid + m ≤ s0 + y)
    (hl : s0 = x ∨ mid + m = s0 + y) (hr : r0 = m ∨ mid + m = r0 + m)
    (hA : ∀ c, s0 ≤ c → c < s → (F c).fl ≤ (F (mid + m - 1 - c)).fl) (hB : ∀ c, s ≤ c → c < r0 → (F (mid + m - 1 - c)).fl < (F c).fl) : Cut F x m y mid s (mid + m - s) := by
  refine ⟨by omega, by omega, by omega, by omega, by omega, fun i j i1 i2 j1 j2 => ?_, fun i j i1 i2 j1 j2 => ?_⟩
  · have h6 : s < r0 := by omega
    have b := hB s (Nat.le_refl _) h6
    have c1 : (F s).fl ≤ (F i).fl := by
      by_cases e : i = s
      · subst e; exact Int.le_refl _
      · exact hs1 s i (by omega) (by omega) i2
    have c2 : (F j).fl ≤ (F (mid + m - 1 - s)).fl := by
      by_cases e : j = mid + m - 1 - s
      · subst e; exact Int.le_refl _
      · exact hs2 j _ j1 (by omega) (by omega)
    omega
  · have h6 : s0 < s := by omega
    have a := hA (s - 1) (by omega) (by omega)
    have c1 : (F i).fl ≤ (F (s - 1)).fl := by
      by_cases e : i = s - 1
      · subst e; exact Int.le_refl _
      · exact hs1 i (s - 1) i1 (by omega) (by omega)
    have c2 : (F (mid + m - 1 - (s - 1))).fl ≤ (F j).fl := by
      by_cases e : j = mid + m - 1 - (s - 1)
      · subst e; exact Int.le_refl _
      · exact hs2 _ j (by omega) (by omega) j2
    omega
theorem rot_none (F : Nat → Dg) (s m e : Nat) (h1 : s ≤ m) (h2 : m ≤ e) (h : s = m ∨ m = e) : rot F s m e = F := by
  funext k
  unfold rot
  by_cases c : s ≤ k ∧ k < e
  · rw [if_pos c]
    by_cases d : k < s + (e - m)
    · rw [if_pos d]; congr 1; omega
    · rw [if_neg d]; congr 1; omega
  · rw [if_neg c]
/-- what stands behind the rotation -/
structure Half (n : Nat) (F F1 : Nat → Dg) (x y mid s e : Nat) : Prop where
  mix : Mix n F F1 x y
  a1 : Srt F1 x s
  a2 : Srt F1 s mid
  b1 : Srt F1 mid e
  b2 : Srt F1 e y
  cross : ∀ p q, x ≤ p → p < mid → mid ≤ q → q < y → (F1 p).fl ≤ (F1 q).fl
theorem half_of {n : Nat} {F : Nat → Dg} {x m y mid s e : Nat} (h : Cut F x m y mid s e) (hy : y ≤ n) (hs1 : Srt F x m) (hs2 : Srt F m y) : Half n F (rot F s m e) x y mid s e := by
  obtain ⟨h1, h2, h3, h4, h5, h6, h7⟩ := h
  have e1 : ∀ k, k < s → rot F s m e k = F k := fun k hk => by unfold rot; rw [if_neg (by omega)]
  have e2 : ∀ k, s ≤ k → k < mid → rot F s m e k = F (k - s + m) := fun k k1 k2 => by unfold rot; rw [if_pos (by omega), if_pos (by omega)]
  have e3 : ∀ k, mid ≤ k → k < e → rot F s m e k = F (k - (e - m)) := fun k k1 k2 => by unfold rot; rw [if_pos (by omega), if_neg (by omega)]
  have e4 : ∀ k, e ≤ k → rot F s m e k = F k := fun k hk => by unfold rot; rw [if_neg (by omega)]
  refine ⟨(mix_rot n F s m e h2 h3 (by omega) fun i j i1 i2 j1 j2 => by have := h6 i j i1 i2 j1 j2; omega).mono h1 h4, ?_, ?_, ?_, ?_, ?_⟩
  · intro p q p1 p2 p3
    rw [e1 p (by omega), e1 q p3]; exact hs1 p q p1 p2 (by omega)
  · intro p q p1 p2 p3
    rw [e2 p p1 (by omega), e2 q (by omega) p3]; exact hs2 _ _ (by omega) (by omega) (by omega)
  · intro p q p1 p2 p3
    rw [e3 p p1 (by omega), e3 q (by omega) p3]; exact hs1 _ _ (by omega) (by omega) (by omega)
  · intro p q p1 p2 p3
    rw [e4 p p1, e4 q (by omega)]; exact hs2 p q (by omega) p2 p3
  · intro p q p1 p2 q1 q2
    by_cases c1 : p < s
    · rw [e1 p c1]
      by_cases c2 : q < e
      · rw [e3 q q1 c2]; exact hs1 _ _ p1 (by omega) (by omega)
      · rw [e4 q (by omega)]; exact h7 p q p1 c1 (by omega) q2
    · rw [e2 p (by omega) p2]
      by_cases c2 : q < e
      · rw [e3 q q1 c2]; exact Int.le_of_lt (h6 _ _ (by omega) (by omega) (by omega) (by omega))
      · rw [e4 q (by omega)]; exact hs2 _ _ (by omega) (by omega) q2
theorem srt_join {F : Nat → Dg} {x s m : Nat} (h1 : Srt F x s) (h2 : Srt F s m) (h : s ≤ x ∨ m ≤ s) : Srt F x m := by
  intro p q p1 p2 p3
  by_cases c : s ≤ x
  · exact h2 p q (by omega) p2 p3
  · exact h1 p q p1 p2 (by omega)
theorem srt_out {F F' : Nat → Dg} {a b x y : Nat} (h : Out F F' a b) (hs : Srt F x y) (hd : y ≤ a ∨ b ≤ x) : Srt F' x y := by
  intro p q p1 p2 p3
  rw [h p (by omega), h q (by omega)]; exact hs p q p1 p2 p3
/-- both halves sorted -/
theorem sym_end {n : Nat} {F F1 F2 F3 : Nat → Dg} {x y mid s e : Nat} (h : Half n F F1 x y mid s e) (h1 : x ≤ mid) (h2 : mid ≤ y) (m2 : Mix n F1 F2 x mid) (s2 : Srt F2 x mid) (m3 : Mix n F2 F3 mid y) (s3 : Srt F3 mid y) : Mix n F F3 x y ∧ Srt F3 x y := by
  refine ⟨h.mix.trans ((m2.mono (Nat.le_refl _) h2).trans (m3.mono h1 (Nat.le_refl _))), fun p q p1 p2 p3 => ?_⟩
  by_cases c1 : q < mid
  · rw [m3.out p (by omega), m3.out q (by omega)]; exact s2 p q p1 p2 c1
  · by_cases c2 : mid ≤ p
    · exact s3 p q c2 p2 p3
    · obtain ⟨k, k1, k2, k3⟩ := m2.from_ p p1 (by omega)
      obtain ⟨l, l1, l2, l3⟩ := m3.from_ q (by omega) p3
      rw [m3.out p (by omega), k3, l3, m2.out l (by omega)]
      exact h.cross k l k1 k2 l1 l2
end Go.Proofs.Qxb6002619a
