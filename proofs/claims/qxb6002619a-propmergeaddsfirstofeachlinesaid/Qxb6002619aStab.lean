/- stability and order, plainly -/
import Derived.Test.Qxb6002619aMem
namespace Go.Proofs.Qxb6002619a
set_option linter.unusedVariables false
set_option linter.unusedSimpArgs false

def seg (F : Nat → Dg) (a b : Nat) : List Dg := (List.range' a (b - a)).map F
def flt (t : Int) (l : List Dg) : List Dg := l.filter fun d => decide (d.fl = t)
/-- for each line the same diagnostics in the same order -/
def Stab (n : Nat) (F F' : Nat → Dg) : Prop := ∀ t, flt t (seg F 0 n) = flt t (seg F' 0 n)
theorem Stab.refl (n : Nat) (F : Nat → Dg) : Stab n F F := fun _ => rfl
theorem Stab.trans {n : Nat} {F F1 F2 : Nat → Dg} (h : Stab n F F1) (k : Stab n F1 F2) : Stab n F F2 := fun t => (h t).trans (k t)
theorem seg_split (F : Nat → Dg) (a m b : Nat) (h1 : a ≤ m) (h2 : m ≤ b) : seg F a b = seg F a m ++ seg F m b := by
  unfold seg
  rw [← List.map_append]
  congr 1
  have := List.range'_append (s := a) (m := m - a) (n := b - m) (step := 1)
  rw [show a + 1 * (m - a) = m by omega, show m - a + (b - m) = b - a by omega] at this
  exact this.symm
theorem seg_congr {F F' : Nat → Dg} {a b : Nat} (h : ∀ k, a ≤ k → k < b → F k = F' k) : seg F a b = seg F' a b := by
  unfold seg
  refine List.map_congr_left fun k hk => ?_
  rw [List.mem_range'_1] at hk
  exact h k hk.1 (by omega)
theorem seg_shift (F F' : Nat → Dg) (a b a' b' : Nat) (hl : b - a = b' - a') (h : ∀ i, i < b - a → F (a + i) = F' (a' + i)) : seg F a b = seg F' a' b' := by
  unfold seg
  rw [← hl]
  apply List.ext_getElem
  · simp
  · intro i h1 h2
    simp only [List.getElem_map, List.getElem_range', Nat.one_mul]
    exact h i (by simpa using h1)
theorem seg_one (F : Nat → Dg) (a : Nat) : seg F a (a + 1) = [F a] := by
  unfold seg; rw [show a + 1 - a = 1 by omega]; rfl
theorem mem_seg {F : Nat → Dg} {a b : Nat} {y : Dg} : y ∈ seg F a b ↔ ∃ k, a ≤ k ∧ k < b ∧ F k = y := by
  unfold seg
  simp only [List.mem_map, List.mem_range'_1]
  constructor
  · rintro ⟨k, ⟨h1, h2⟩, h3⟩; exact ⟨k, h1, by omega, h3⟩
  · rintro ⟨k, h1, h2, h3⟩; exact ⟨k, ⟨h1, by omega⟩, h3⟩
theorem flt_append (t : Int) (a b : List Dg) : flt t (a ++ b) = flt t a ++ flt t b := by simp [flt]
theorem flt_none {t : Int} {l : List Dg} (h : ∀ y ∈ l, y.fl ≠ t) : flt t l = [] := by
  unfold flt
  rw [List.filter_eq_nil_iff]
  intro y hy; simpa using h y hy
/-- two runs with no line in common may change places -/
theorem flt_swap (t : Int) (U V : List Dg) (h : ∀ u ∈ U, ∀ v ∈ V, u.fl ≠ v.fl) : flt t (U ++ V) = flt t (V ++ U) := by
  rw [flt_append, flt_append]
  by_cases hu : ∃ u ∈ U, u.fl = t
  · obtain ⟨u, hu, rfl⟩ := hu
    rw [flt_none (l := V) fun v hv => Ne.symm (h u hu v hv)]; simp
  · rw [flt_none (l := U) fun u hu' e => hu ⟨u, hu', e⟩]; simp
theorem stab_rot (n : Nat) (F : Nat → Dg) (a m b : Nat) (h1 : a ≤ m) (h2 : m ≤ b) (h3 : b ≤ n) (h : ∀ i j, a ≤ i → i < m → m ≤ j → j < b → (F i).fl ≠ (F j).fl) : Stab n F (rot F a m b) := by
  intro t
  rw [seg_split F 0 a n (by omega) (by omega), seg_split F a b n (by omega) (by omega), seg_split F a m b h1 h2]
  rw [seg_split (rot F a m b) 0 a n (by omega) (by omega), seg_split (rot F a m b) a b n (by omega) (by omega), seg_split (rot F a m b) a (a + (b - m)) b (by omega) (by omega)]
  have e1 : seg (rot F a m b) 0 a = seg F 0 a := seg_congr fun k _ hk => by unfold rot; rw [if_neg (by omega)]
  have e2 : seg (rot F a m b) b n = seg F b n := seg_congr fun k hk _ => by unfold rot; rw [if_neg (by omega)]
  have e3 : seg (rot F a m b) a (a + (b - m)) = seg F m b := seg_shift _ _ _ _ _ _ (by omega) fun i hi => by
    unfold rot; rw [if_pos (by omega), if_pos (by omega)]; congr 1; omega
  have e4 : seg (rot F a m b) (a + (b - m)) b = seg F a m := seg_shift _ _ _ _ _ _ (by omega) fun i hi => by
    unfold rot; rw [if_pos (by omega), if_neg (by omega)]; congr 1; omega
  rw [e1, e2, e3, e4]
  simp only [flt_append]
  congr 2
  have := flt_swap t (seg F a m) (seg F m b) (fun u hu v hv => by
    obtain ⟨i, i1, i2, rfl⟩ := mem_seg.1 hu
    obtain ⟨j, j1, j2, rfl⟩ := mem_seg.1 hv
    exact h i j i1 i2 j1 j2)
  rw [flt_append, flt_append] at this
  exact this
theorem swp_rot (F : Nat → Dg) (j : Nat) : swp F j (j + 1) = rot F j (j + 1) (j + 2) := by
  funext k
  unfold swp rot
  by_cases e1 : k = j
  · subst e1
    rw [if_pos rfl, if_pos (by omega), if_pos (by omega)]; congr 1; omega
  · rw [if_neg e1]
    by_cases e2 : k = j + 1
    · subst e2
      rw [if_pos rfl, if_pos (by omega), if_neg (by omega)]; congr 1; omega
    · rw [if_neg e2, if_neg (by omega)]
theorem swp_comm (F : Nat → Dg) (p q : Nat) (h : p ≠ q) : swp F p q = swp F q p := by
  funext k
  unfold swp
  by_cases e1 : k = p
  · subst e1; rw [if_pos rfl, if_neg h, if_pos rfl]
  · rw [if_neg e1]
    by_cases e2 : k = q
    · rw [if_pos e2, if_pos e2]
    · rw [if_neg e2, if_neg e2, if_neg e1]
theorem stab_swp (n : Nat) (F : Nat → Dg) (j : Nat) (h : j + 1 < n) (hne : (F j).fl ≠ (F (j + 1)).fl) : Stab n F (swp F j (j + 1)) := by
  rw [swp_rot]
  refine stab_rot n F j (j + 1) (j + 2) (by omega) (by omega) (by omega) fun p q h1 h2 h3 h4 => ?_
  rw [show p = j by omega, show q = j + 1 by omega]; exact hne

def Srt (F : Nat → Dg) (a b : Nat) : Prop := ∀ p q, a ≤ p → p < q → q < b → (F p).fl ≤ (F q).fl
def Out (F F' : Nat → Dg) (a b : Nat) : Prop := ∀ k, k < a ∨ b ≤ k → F' k = F k
def From (F F' : Nat → Dg) (a b : Nat) : Prop := ∀ k, a ≤ k → k < b → ∃ k', a ≤ k' ∧ k' < b ∧ F' k = F k'
/-- what happened between a and b -/
structure Mix (n : Nat) (F F' : Nat → Dg) (a b : Nat) : Prop where
  out : Out F F' a b
  from_ : From F F' a b
  stab : Stab n F F'
theorem Mix.refl (n : Nat) (F : Nat → Dg) (a b : Nat) : Mix n F F a b := ⟨fun _ _ => rfl, fun k h1 h2 => ⟨k, h1, h2, rfl⟩, Stab.refl n F⟩
theorem Mix.trans {n : Nat} {F F1 F2 : Nat → Dg} {a b : Nat} (h : Mix n F F1 a b) (k : Mix n F1 F2 a b) : Mix n F F2 a b :=
  ⟨fun i hi => (k.out i hi).trans (h.out i hi), fun i h1 h2 => by
    obtain ⟨j, j1, j2, j3⟩ := k.from_ i h1 h2
    obtain ⟨l, l1, l2, l3⟩ := h.from_ j j1 j2
    exact ⟨l, l1, l2, j3.trans l3⟩, h.stab.trans k.stab⟩
theorem Mix.mono {n : Nat} {F F' : Nat → Dg} {a b a' b' : Nat} (h : Mix n F F' a b) (ha : a' ≤ a) (hb : b ≤ b') : Mix n F F' a' b' :=
  ⟨fun i hi => h.out i (by omega), fun i h1 h2 => by
    by_cases c : a ≤ i ∧ i < b
    · obtain ⟨j, j1, j2, j3⟩ := h.from_ i c.1 c.2
      exact ⟨j, by omega, by omega, j3⟩
    · exact ⟨i, h1, h2, h.out i (by omega)⟩, h.stab⟩
theorem mix_rot (n : Nat) (F : Nat → Dg) (a m b : Nat) (h1 : a ≤ m) (h2 : m ≤ b) (h3 : b ≤ n) (h : ∀ i j, a ≤ i → i < m → m ≤ j → j < b → (F i).fl ≠ (F j).fl) : Mix n F (rot F a m b) a b :=
  ⟨fun k hk => by unfold rot; rw [if_neg (by omega)], fun k k1 k2 => by
    unfold rot
    rw [if_pos (by omega)]
    by_cases c : k < a + (b - m)
    · rw [if_pos c]; exact ⟨_, by omega, by omega, rfl⟩
    · rw [if_neg c]; exact ⟨_, by omega, by omega, rfl⟩, stab_rot n F a m b h1 h2 h3 h⟩
theorem mix_swp (n : Nat) (F : Nat → Dg) (j : Nat) (h : j + 1 < n) (hne : (F j).fl ≠ (F (j + 1)).fl) : Mix n F (swp F j (j + 1)) j (j + 2) := by
  rw [swp_rot]
  refine mix_rot n F j (j + 1) (j + 2) (by omega) (by omega) (by omega) fun p q h1 h2 h3 h4 => ?_
  rw [show p = j by omega, show q = j + 1 by omega]; exact hne
theorem Mix.pos {n : Nat} {F F' : Nat → Dg} {a b : Nat} (h : Mix n F F' a b) (hb : b ≤ n) (hP : PosD n F) : PosD n F' := by
  intro k hk
  by_cases c : a ≤ k ∧ k < b
  · obtain ⟨j, j1, j2, j3⟩ := h.from_ k c.1 c.2
    rw [j3]; exact hP j (by omega)
  · rw [h.out k (by omega)]; exact hP k hk
end Go.Proofs.Qxb6002619a
