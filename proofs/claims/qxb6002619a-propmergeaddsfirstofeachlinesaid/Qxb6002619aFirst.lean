/- the first diagnostic of each line, plainly -/
import Derived.Test.Qxb6002619aStab
namespace Go.Proofs.Qxb6002619a
set_option linter.unusedVariables false
set_option linter.unusedSimpArgs false

/-- the first diagnostic of each line, among the first i -/
def fst1 (F : Nat → Dg) : Nat → List Dg
  | 0 => []
  | i + 1 => if (flt (F i).fl (seg F 0 i)).isEmpty = true then fst1 F i ++ [F i] else fst1 F i
theorem fst1_pos {F : Nat → Dg} {i : Nat} (c : flt (F i).fl (seg F 0 i) = []) : fst1 F (i + 1) = fst1 F i ++ [F i] := by
  rw [fst1, if_pos (by rw [c]; rfl)]
theorem fst1_neg {F : Nat → Dg} {i : Nat} (c : ¬ flt (F i).fl (seg F 0 i) = []) : fst1 F (i + 1) = fst1 F i := by
  rw [fst1, if_neg (by rw [List.isEmpty_iff]; exact c)]
theorem seg_succ (F : Nat → Dg) (i : Nat) : seg F 0 (i + 1) = seg F 0 i ++ [F i] := by
  rw [seg_split F 0 i (i + 1) (by omega) (by omega), seg_one]
theorem seg_zero (F : Nat → Dg) : seg F 0 0 = [] := rfl
theorem mem_fst1 (F : Nat → Dg) (y : Dg) : ∀ i, y ∈ fst1 F i ↔ (flt y.fl (seg F 0 i)).head? = some y
  | 0 => by simp [fst1, seg_zero, flt]
  | i + 1 => by
    have ih := mem_fst1 F y i
    rw [seg_succ, flt_append]
    by_cases e : (F i).fl = y.fl
    · have h1 : flt y.fl [F i] = [F i] := by simp [flt, e]
      rw [h1]
      by_cases c : flt y.fl (seg F 0 i) = []
      · rw [fst1_pos (by rw [e]; exact c), c]
        rw [c] at ih
        simp at ih
        simp [ih]
        exact eq_comm
      · rw [fst1_neg (by rw [e]; exact c), ih]
        cases h : flt y.fl (seg F 0 i) with
        | nil => exact absurd h c
        | cons u r => simp
    · have h1 : flt y.fl [F i] = [] := by simp [flt, e]
      rw [h1, List.append_nil, ← ih]
      by_cases c : flt (F i).fl (seg F 0 i) = []
      · rw [fst1_pos c]
        have : y ≠ F i := fun h => e (by rw [h])
        simp [this]
      · rw [fst1_neg c]
theorem fst1_from (F : Nat → Dg) {y : Dg} : ∀ i, y ∈ fst1 F i → ∃ k, k < i ∧ F k = y
  | 0, h => by simp [fst1] at h
  | i + 1, h => by
    by_cases c : flt (F i).fl (seg F 0 i) = []
    · rw [fst1_pos c, List.mem_append, List.mem_singleton] at h
      rcases h with h | h
      · obtain ⟨k, h1, h2⟩ := fst1_from F i h
        exact ⟨k, by omega, h2⟩
      · exact ⟨i, by omega, h.symm⟩
    · rw [fst1_neg c] at h
      obtain ⟨k, h1, h2⟩ := fst1_from F i h
      exact ⟨k, by omega, h2⟩
/-- no line twice -/
def Dis (D : List Dg) : Prop := D.Pairwise fun x y => x.fl ≠ y.fl
theorem fst1_new (F : Nat → Dg) (i : Nat) (c : flt (F i).fl (seg F 0 i) = []) : ∀ y ∈ fst1 F i, y.fl ≠ (F i).fl := by
  intro y hy e
  rw [mem_fst1, e, c] at hy
  simp at hy
theorem dis_snoc {D : List Dg} {d : Dg} (h : Dis D) (hd : ∀ y ∈ D, y.fl ≠ d.fl) : Dis (D ++ [d]) := by
  unfold Dis at *
  rw [List.pairwise_append]
  exact ⟨h, by simp, fun x hx y hy => by rw [List.mem_singleton] at hy; subst hy; exact hd x hx⟩
theorem dis_fst1 (F : Nat → Dg) : ∀ i, Dis (fst1 F i)
  | 0 => List.Pairwise.nil
  | i + 1 => by
    by_cases c : flt (F i).fl (seg F 0 i) = []
    · rw [fst1_pos c]; exact dis_snoc (dis_fst1 F i) (fst1_new F i c)
    · rw [fst1_neg c]; exact dis_fst1 F i
theorem fst1_len (F : Nat → Dg) : ∀ i, (fst1 F i).length ≤ i
  | 0 => by simp [fst1]
  | i + 1 => by
    have := fst1_len F i
    by_cases c : flt (F i).fl (seg F 0 i) = []
    · rw [fst1_pos c]; simp; omega
    · rw [fst1_neg c]; omega
theorem flt_nil_iff (F : Nat → Dg) (t : Int) (i : Nat) : flt t (seg F 0 i) = [] ↔ ∀ j, j < i → (F j).fl ≠ t := by
  constructor
  · intro h j hj e
    have : F j ∈ flt t (seg F 0 i) := by
      unfold flt
      rw [List.mem_filter]
      exact ⟨mem_seg.2 ⟨j, by omega, hj, rfl⟩, by simpa using e⟩
    rw [h] at this
    simp at this
  · intro h
    refine flt_none fun y hy => ?_
    obtain ⟨k, _, h2, rfl⟩ := mem_seg.1 hy
    exact h k h2
/-- in a sorted row: a line is new when it is not the one before -/
theorem fst1_sorted (F : Nat → Dg) (n i : Nat) (hs : Srt F 0 n) (h0 : 0 < i) (hi : i < n) : flt (F i).fl (seg F 0 i) = [] ↔ (F i).fl ≠ (F (i - 1)).fl := by
  rw [flt_nil_iff]
  constructor
  · intro h e; exact h (i - 1) (by omega) e.symm
  · intro h j hj e
    by_cases c : j = i - 1
    · subst c; exact h e.symm
    · have h1 := hs j (i - 1) (by omega) (by omega) (by omega)
      have h2 := hs (i - 1) i (by omega) (by omega) hi
      omega
theorem asc_ext : ∀ (S T : List Dg), AscP S → AscP T → (∀ y, y ∈ S ↔ y ∈ T) → S = T
  | [], [], _, _, _ => rfl
  | [], t :: T, _, _, h => absurd ((h t).2 (by simp)) (by simp)
  | s :: S, [], _, _, h => absurd ((h s).1 (by simp)) (by simp)
  | s :: S, t :: T, hs, ht, h => by
    unfold AscP at hs ht
    rw [List.pairwise_cons] at hs ht
    have e : s = t := by
      have h1 := (h s).1 (by simp)
      have h2 := (h t).2 (by simp)
      rw [List.mem_cons] at h1 h2
      rcases h1 with h1 | h1
      · exact h1
      · rcases h2 with h2 | h2
        · exact h2.symm
        · have := ht.1 s h1; have := hs.1 t h2; omega
    subst e
    congr 1
    refine asc_ext S T hs.2 ht.2 fun y => ⟨fun hy => ?_, fun hy => ?_⟩
    · have h1 := (h y).1 (by simp [hy])
      rw [List.mem_cons] at h1
      rcases h1 with rfl | h1
      · have := hs.1 y hy; omega
      · exact h1
    · have h1 := (h y).2 (by simp [hy])
      rw [List.mem_cons] at h1
      rcases h1 with rfl | h1
      · have := ht.1 y hy; omega
      · exact h1
theorem asc_fold : ∀ (D S : List Dg), AscP S → Dis D → (∀ x ∈ S, ∀ d ∈ D, x.fl ≠ d.fl) → AscP (D.foldl (fun S d => insD d S) S)
  | [], S, h, _, _ => h
  | d :: r, S, h, hD, hx => by
    unfold Dis at hD
    rw [List.pairwise_cons] at hD
    rw [List.foldl_cons]
    refine asc_fold r (insD d S) (asc_insD d S h fun y hy => hx y hy d (by simp)) hD.2 fun x hm e he => ?_
    rw [mem_insD] at hm
    rcases hm with rfl | hm
    · exact hD.1 e he
    · exact hx x hm e (by simp [he])
theorem asc_G {D : List Dg} (h : Dis D) : AscP (G D) := asc_fold D [] List.Pairwise.nil h (by simp)
/-- THE PLAIN LAW -/
theorem merge_same (pre : List Dg) (n : Nat) (H F : Nat → Dg) (hst : Stab n H F) (hp : Dis pre) (hd : ∀ x ∈ pre, ∀ k, k < n → x.fl ≠ (H k).fl) : G (pre ++ fst1 H n) = G (pre ++ fst1 F n) ∧ (pre ++ fst1 H n).length = (pre ++ fst1 F n).length := by
  have hm : ∀ y, y ∈ fst1 H n ↔ y ∈ fst1 F n := fun y => by rw [mem_fst1, mem_fst1, hst y.fl]
  have a1 : Dis (pre ++ fst1 H n) := by
    unfold Dis
    rw [List.pairwise_append]
    refine ⟨hp, dis_fst1 H n, fun x hx y hy => ?_⟩
    obtain ⟨k, hk, rfl⟩ := fst1_from H n hy
    exact hd x hx k hk
  have a2 : Dis (pre ++ fst1 F n) := by
    unfold Dis
    rw [List.pairwise_append]
    refine ⟨hp, dis_fst1 F n, fun x hx y hy => ?_⟩
    obtain ⟨k, hk, rfl⟩ := fst1_from H n ((hm y).2 hy)
    exact hd x hx k hk
  have e : G (pre ++ fst1 H n) = G (pre ++ fst1 F n) := asc_ext _ _ (asc_G a1) (asc_G a2) fun y => by rw [mem_G, mem_G, List.mem_append, List.mem_append, hm y]
  exact ⟨e, by rw [← len_G (pre ++ fst1 H n), ← len_G (pre ++ fst1 F n), e]⟩
end Go.Proofs.Qxb6002619a
