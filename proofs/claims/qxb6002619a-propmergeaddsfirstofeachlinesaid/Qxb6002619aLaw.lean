/- the plain law: lists of diagnostics -/
import Derived.Test.Qxb6002619aAdd
namespace Go.Proofs.Qxb6002619a
set_option linter.unusedVariables false
set_option linter.unusedSimpArgs false

theorem insD_take (d : Dg) : ∀ (S : List Dg) (n : Nat), (insD d (S.take n)).take n = (insD d S).take n
  | S, 0 => by simp
  | [], n + 1 => by simp
  | x :: r, n + 1 => by
    simp only [List.take_succ_cons, insD]
    by_cases h : x.fl < d.fl
    · simp only [h, if_true, List.take_succ_cons]
      rw [insD_take d r n]
    · simp only [h, if_false, List.take_succ_cons]
      congr 1
      match n with
      | 0 => simp
      | m + 1 => simp [List.take_take]
theorem len_insD (d : Dg) : ∀ S : List Dg, (insD d S).length = S.length + 1
  | [] => rfl
  | x :: r => by
    by_cases h : x.fl < d.fl
    · simp [insD, h, len_insD d r]
    · simp [insD, h]
theorem mem_insD (d y : Dg) : ∀ S : List Dg, y ∈ insD d S ↔ y = d ∨ y ∈ S
  | [] => by simp [insD]
  | x :: r => by
    by_cases h : x.fl < d.fl
    · simp only [insD, h, if_true, List.mem_cons, mem_insD d y r]
      constructor
      · rintro (h | h | h) <;> simp [h]
      · rintro (h | h | h) <;> simp [h]
    · simp only [insD, h, if_false, List.mem_cons]
/-- sorted by insertion, from the left -/
def G (D : List Dg) : List Dg := D.foldl (fun S d => insD d S) []
theorem G_snoc (D : List Dg) (d : Dg) : G (D ++ [d]) = insD d (G D) := by simp [G]
theorem len_fold : ∀ (D S : List Dg), (D.foldl (fun S d => insD d S) S).length = S.length + D.length
  | [], S => rfl
  | d :: r, S => by simp only [List.foldl_cons, len_fold r, len_insD, List.length_cons]; omega
theorem len_G (D : List Dg) : (G D).length = D.length := by simp [G, len_fold]
theorem mem_fold (y : Dg) : ∀ (D S : List Dg), y ∈ D.foldl (fun S d => insD d S) S ↔ y ∈ S ∨ y ∈ D
  | [], S => by simp
  | d :: r, S => by
    rw [List.foldl_cons, mem_fold y r, mem_insD, List.mem_cons]
    constructor
    · rintro ((h | h) | h) <;> simp [h]
    · rintro (h | h | h) <;> simp [h]
theorem mem_G (D : List Dg) (y : Dg) : y ∈ G D ↔ y ∈ D := by simp [G, mem_fold]
def AscP (S : List Dg) : Prop := S.Pairwise fun x y => x.fl < y.fl
theorem asc_insD (d : Dg) : ∀ S : List Dg, AscP S → (∀ y ∈ S, y.fl ≠ d.fl) → AscP (insD d S)
  | [], _, _ => by simp [insD, AscP]
  | x :: r, h, hd => by
    unfold AscP at h ⊢
    rw [List.pairwise_cons] at h
    by_cases hx : x.fl < d.fl
    · simp only [insD, hx, if_true, List.pairwise_cons]
      refine ⟨fun y hy => ?_, asc_insD d r h.2 fun y hy => hd y (by simp [hy])⟩
      rw [mem_insD] at hy
      rcases hy with rfl | hy
      · exact hx
      · exact h.1 y hy
    · simp only [insD, hx, if_false, List.pairwise_cons]
      have h1 := hd x (by simp)
      refine ⟨fun y hy => ?_, h⟩
      rw [List.mem_cons] at hy
      rcases hy with rfl | hy
      · omega
      · have := h.1 y hy; omega
def PosD (n : Nat) (f : Nat → Dg) : Prop := ∀ i, i < n → 0 < (f i).fl ∧ (f i).fl ≤ 9223372036854775807
def DistD (n : Nat) (f : Nat → Dg) : Prop := ∀ i, i < n → ∀ j, j < i → (f j).fl ≠ (f i).fl
/-- the first k diagnostics, sorted -/
def Gk (f : Nat → Dg) (k : Nat) : List Dg := G ((List.range k).map f)
theorem Gk_zero (f : Nat → Dg) : Gk f 0 = [] := rfl
theorem Gk_succ (f : Nat → Dg) (k : Nat) : Gk f (k + 1) = insD (f k) (Gk f k) := by
  unfold Gk
  rw [List.range_succ, List.map_append, List.map_cons, List.map_nil, G_snoc]
theorem len_Gk (f : Nat → Dg) (k : Nat) : (Gk f k).length = k := by simp [Gk, len_G]
theorem mem_Gk (f : Nat → Dg) (k : Nat) (y : Dg) : y ∈ Gk f k ↔ ∃ i, i < k ∧ f i = y := by simp [Gk, mem_G]
theorem asc_Gk (f : Nat → Dg) (n : Nat) (h : DistD n f) : ∀ k, k ≤ n → AscP (Gk f k)
  | 0, _ => by simp [Gk_zero, AscP]
  | k + 1, hk => by
    rw [Gk_succ]
    refine asc_insD _ _ (asc_Gk f n h k (by omega)) fun y hy => ?_
    obtain ⟨i, hi, rfl⟩ := (mem_Gk f k y).1 hy
    exact h k (by omega) i hi
theorem Asc_of {S : List Dg} (h : AscP S) : Asc S := by
  intro i j hij hj
  have := List.pairwise_iff_getElem.1 h i j (by omega) hj hij
  rw [List.getD_eq_getElem?_getD, List.getD_eq_getElem?_getD, List.getElem?_eq_getElem hj, List.getElem?_eq_getElem (by omega)]
  exact this
theorem asc_take {S : List Dg} (h : AscP S) (n : Nat) : AscP (S.take n) := h.sublist (List.take_sublist n S)
theorem Pos_of {S : List Dg} (h : ∀ y ∈ S, 0 < y.fl ∧ y.fl ≤ 9223372036854775807) : Pos S := by
  intro i hi
  rw [List.getD_eq_getElem?_getD, List.getElem?_eq_getElem hi]
  exact h _ (List.getElem_mem hi)
theorem Pos_Gk (f : Nat → Dg) (n k : Nat) (h : PosD n f) (hk : k ≤ n) : Pos ((Gk f k).take 50) :=
  Pos_of fun y hy => by
    obtain ⟨i, hi, rfl⟩ := (mem_Gk f k y).1 (List.mem_of_mem_take hy)
    exact h i (by omega)
/-- one more -/
theorem take_Gk (f : Nat → Dg) (k : Nat) : (insD (f k) ((Gk f k).take 50)).take 50 = (Gk f (k + 1)).take 50 := by rw [insD_take, Gk_succ]
/-- where the swaps stop -/
theorem ins_stop (P : List Dg) (d : Dg) (j : Nat) (hj : j ≤ P.length) (hP : AscP P) (h1 : ∀ k, j ≤ k → k < P.length → d.fl < (P.getD k zD).fl) (h2 : 0 < j → (P.getD (j - 1) zD).fl ≤ d.fl) (h3 : ∀ y ∈ P, y.fl ≠ d.fl) : P.take j ++ [d] ++ P.drop j = insD d P := by
  refine insD_of_lb P d j ⟨hj, fun k hk => ?_, fun k g1 g2 => Int.le_of_lt (h1 k g1 g2)⟩
  have hA := Asc_of hP
  have h5 : (P.getD (j - 1) zD).fl ≠ d.fl := h3 _ (by
    rw [List.getD_eq_getElem?_getD, List.getElem?_eq_getElem (show j - 1 < P.length by omega)]
    exact List.getElem_mem _)
  have h4 := h2 (by omega)
  by_cases e : k = j - 1
  · subst e; omega
  · have := hA k (j - 1) (by omega) (by omega); omega
end Go.Proofs.Qxb6002619a
