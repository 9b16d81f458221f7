/- zzSortByFileLine -/
import Derived.Test.Qxb6002619aSort
import Derived.Test.Qxb6002619aLaw
import Derived.Test.Qxb6002619aDist
namespace Go.Proofs.Qxb6002619a
open Go.ChangeShapes Go.WideShapes Go.ChangeAt Go.RowKit
set_option linter.unusedVariables false
set_option linter.unusedSimpArgs false

/-- inside the inner loop: the element d has come down to place j -/
def SInv (w : World) (b : Nat) (P R : List Dg) (d : Dg) (j : Nat) (W : World) : Prop :=
  blkOf W b = row (P.take j ++ d :: (P.drop j ++ R)) ∧ (∀ k, j ≤ k → k < P.length → d.fl < (P.getD k zD).fl) ∧ Kept b w W ∧ b < w.heap.size
theorem SInv.reads {w : World} {b : Nat} {P R : List Dg} {d : Dg} {j : Nat} {W : World} (h : SInv w b P R d j W) (hj : 0 < j) (hP : j ≤ P.length) :
    DAt W b 0 j d ∧ DAt W b 0 (j - 1) (P.getD (j - 1) zD) ∧ ∀ o, W.frozen? ⟨b, o, none⟩ = false := by
  obtain ⟨h1, h2, h3⟩ := h
  have l : (P.take j).length = j := by simp; omega
  have g1 := DAt_row h1 j (by simp; omega)
  have g2 := DAt_row h1 (j - 1) (by simp; omega)
  have e1 : (P.take j ++ d :: (P.drop j ++ R)).getD j zD = d := by
    rw [List.getD_eq_getElem?_getD, List.getElem?_append_right (by omega), l, Nat.sub_self]; rfl
  have e2 : (P.take j ++ d :: (P.drop j ++ R)).getD (j - 1) zD = P.getD (j - 1) zD := by
    rw [List.getD_eq_getElem?_getD, List.getElem?_append_left (by omega), List.getElem?_take, if_pos (by omega), List.getD_eq_getElem?_getD]
  rw [e1] at g1
  rw [e2] at g2
  exact ⟨g1, g2, fun o => blk_frozen (by rw [h1, len_row]; simp; omega)⟩
theorem set_mid (A B : List Dg) (x y : Dg) (j : Nat) (h : A.length = j) : (A ++ x :: B).set j y = A ++ y :: B := by
  subst h; simp
/-- the world behind one swap -/
def swapped (W : World) (b j m : Nat) (x d : Dg) : World :=
  (((((((((W.setCell ⟨b, j * 4, none⟩ (.int .i64 x.line)).setCell ⟨b, j * 4 + 1, none⟩ (.int .i64 x.fl)).setCell ⟨b, j * 4 + 2, none⟩ (.string x.text)).setCell ⟨b, j * 4 + 3, none⟩ (.bool x.warn)).setCell
    ⟨b, m * 4, none⟩ (.int .i64 d.line)).setCell ⟨b, m * 4 + 1, none⟩ (.int .i64 d.fl)).setCell ⟨b, m * 4 + 2, none⟩ (.string d.text)).setCell ⟨b, m * 4 + 3, none⟩ (.bool d.warn)).alloc (.cells #[.int .i64 d.line, .int .i64 d.fl, .string d.text, .bool d.warn] 28))
theorem swapped_put (W : World) (b j m : Nat) (x d : Dg) : swapped W b j m x d = (put (put W b (j * 4) (c4 x)) b (m * 4) (c4 d)).alloc (.cells #[.int .i64 d.line, .int .i64 d.fl, .string d.text, .bool d.warn] 28) := rfl
theorem SInv.swap {w : World} {b : Nat} {P R : List Dg} {d : Dg} {j : Nat} {W : World} (h : SInv w b P R d j W) (hj : 0 < j) (hP : j ≤ P.length) (hlt : d.fl < (P.getD (j - 1) zD).fl) :
    SInv w b P R d (j - 1) (swapped W b j (j - 1) (P.getD (j - 1) zD) d) := by
  obtain ⟨h1, h2, h3, h4⟩ := h
  rw [swapped_put]
  have hsz : w.heap.size ≤ W.heap.size := h3.size
  have l : (P.take j).length = j := by simp; omega
  have l1 : (P.take (j - 1)).length = j - 1 := by simp; omega
  refine ⟨?_, ?_, ?_, h4⟩
  · rw [blk_alloc, if_neg (by rw [size_put, size_put]; omega), blk_put, if_pos rfl, blk_put, if_pos rfl, h1, over_set _ _ _ (by simp; omega), over_set _ _ _ (by simp; omega), set_mid _ _ _ _ j l]
    congr 1
    have e : P.take j = P.take (j - 1) ++ [P.getD (j - 1) zD] := by
      obtain ⟨m, rfl⟩ : ∃ m, j = m + 1 := ⟨j - 1, by omega⟩
      rw [Nat.add_sub_cancel, List.getD_eq_getElem?_getD, List.getElem?_eq_getElem (show m < P.length by omega), Option.getD_some, List.take_append_getElem]
    have e2 : P.drop (j - 1) = P.getD (j - 1) zD :: P.drop j := by
      obtain ⟨m, rfl⟩ : ∃ m, j = m + 1 := ⟨j - 1, by omega⟩
      rw [Nat.add_sub_cancel, List.getD_eq_getElem?_getD, List.getElem?_eq_getElem (show m < P.length by omega), Option.getD_some, List.drop_eq_getElem_cons]
    rw [e, List.append_assoc, List.singleton_append, set_mid _ _ _ _ (j - 1) l1, e2]
    rfl
  · intro k g1 g2
    by_cases e : k = j - 1
    · subst e; exact hlt
    · exact h2 k (by omega) g2
  · exact ((h3.put _ _).put _ _).alloc _
/-- the outer loop: the first i are sorted -/
def OInv (w : World) (b n : Nat) (f : Nat → Dg) (i : Nat) (W : World) : Prop :=
  blkOf W b = row (Gk f i ++ (List.range' i (n - i)).map f) ∧ Kept b w W ∧ b < w.heap.size
theorem OInv.enter {w : World} {b n : Nat} {f : Nat → Dg} {i : Nat} {W : World} (h : OInv w b n f i W) (hi : i < n) : SInv w b (Gk f i) ((List.range' (i + 1) (n - (i + 1))).map f) (f i) i W := by
  obtain ⟨h1, h2, h3⟩ := h
  refine ⟨?_, fun k g1 g2 => ?_, h2, h3⟩
  · rw [h1, List.take_of_length_le (by rw [len_Gk]; omega), List.drop_of_length_le (by rw [len_Gk]; omega)]
    congr 2
    rw [show n - i = (n - (i + 1)) + 1 by omega, List.range'_succ]
    rfl
  · rw [len_Gk] at g2; omega
theorem SInv.leave {w : World} {b n : Nat} {f : Nat → Dg} {i j : Nat} {W : World} (h : SInv w b (Gk f i) ((List.range' (i + 1) (n - (i + 1))).map f) (f i) j W) (hi : i < n) (hj : j ≤ i) (hD : DistD n f) (h2 : 0 < j → ((Gk f i).getD (j - 1) zD).fl ≤ (f i).fl) : OInv w b n f (i + 1) W := by
  obtain ⟨h1, h3, h4, h5⟩ := h
  refine ⟨?_, h4, h5⟩
  rw [h1, Gk_succ, ← ins_stop (Gk f i) (f i) j (by rw [len_Gk]; exact hj) (asc_Gk f n hD i (by omega)) h3 h2 (fun y hy => by
    obtain ⟨k, hk, rfl⟩ := (mem_Gk f i y).1 hy
    exact hD i hi k hk)]
  simp
theorem OInv.start {w : World} {b n : Nat} {f : Nat → Dg} (h : blkOf w b = row ((List.range n).map f)) (hn : 0 < n) : OInv w b n f 1 w := by
  have hb : b < w.heap.size := blk_lt (o := 0) (by rw [h, len_row]; simp; omega)
  refine ⟨?_, Kept.refl _ _, hb⟩
  rw [h]
  congr 1
  obtain ⟨m, rfl⟩ : ∃ m, n = m + 1 := ⟨n - 1, by omega⟩
  rw [List.range_eq_range', List.range'_succ]
  rfl
theorem OInv.finish {w : World} {b n : Nat} {f : Nat → Dg} {i : Nat} {W : World} (h : OInv w b n f i W) (hi : i = n) : blkOf W b = row (Gk f n) := by
  subst hi
  rw [h.1]; simp
def SoPost (b n : Nat) (f : Nat → Dg) (w : World) (e : Ending) (w' : World) : Prop :=
  e = .returned (.tuple #[]) ∧ (0 < n → blkOf w' b = row (Gk f n)) ∧ Kept b w w'
theorem Kept.drewN {b : Nat} {w w1 : World} (h : Kept b w w1) (n : Nat) : Kept b w (w1.drewN n) := ⟨h.os, h.tape, h.output, h.size, h.block⟩
theorem SInv.drewN {w : World} {b : Nat} {P R : List Dg} {d : Dg} {j : Nat} {W : World} (h : SInv w b P R d j W) (n : Nat) : SInv w b P R d j (W.drewN n) := ⟨h.1, h.2.1, h.2.2.1.drewN n, h.2.2.2⟩

set_option maxRecDepth 100000 in
set_option maxHeartbeats 3200000 in
theorem sort_any (a : Option Addr) (b n : Nat) (f : Nat → Dg) (w : World) (hn2 : n ≤ 4096) (ha : Hid (0 < n → a = some ⟨b, 0, none⟩)) (hb : Hid (0 < n → blkOf w b = row ((List.range n).map f))) (hD : Hid (DistD n f)) :
    Calls Try.prog 9 #[.slice a n n] w fun e w' => SoPost b n f w e w' := by
  have hn' : (n : Int) ≤ 4096 := by omega
  by_cases h1 : n ≤ 1
  · have h1' : (n : Int) ≤ 1 := by omega
    have hbb : Hid (0 < n → blkOf w b = row (Gk f n)) := hide (fun h => by
      have e : n = 1 := by omega
      subst e
      exact unhide hb h)
    go_enter Try.func9, Try.ntmps9
    go_wp2_with fail
    go_loopw [2] (fun i wr => i = .int .i64 1 ∧ wr = w) (fun i _ => 0)
    case atStart => exact ⟨rfl, rfl⟩
    case round =>
      obtain ⟨rfl, rfl⟩ := hrel
      go_wp2_with fail
      first | go_end0 | refine bodyPost_ret (results_none rfl _ _ _) rfl ?_
      exact ⟨rfl, unhide hbb, Kept.refl _ _⟩
  · have h1' : 1 < n := by omega
    have ea := unhide ha (by omega)
    subst ea
    clear ha h1
    have HO := hide (OInv.start (unhide hb (by omega)) (by omega))
    go_enter Try.func9, Try.ntmps9
    go_wp2_with fail
    go_loopw [2] (fun i wr => ∃ k : Nat, 0 < k ∧ k ≤ n ∧ i = .int .i64 k ∧ Hid (OInv w b n f k wr)) (fun i _ => n - (intOf i).toNat)
    case atStart => exact ⟨1, by omega, by omega, rfl, HO⟩
    case round =>
      obtain ⟨k, hk0, hk, rfl, HI⟩ := hrel
      by_cases hlt : k < n
      · have hlt' : (k : Int) < (n : Int) := by omega
        have HE := hide ((unhide HI).enter hlt)
        go_wp2_with fail
        go_loopw [3] (fun i wr => ∃ j : Nat, j ≤ k ∧ i = .int .i64 j ∧ Hid (SInv w b (Gk f k) ((List.range' (k + 1) (n - (k + 1))).map f) (f k) j wr)) (fun i _ => (intOf i).toNat)
        case atStart => exact ⟨k, Nat.le_refl _, rfl, HE⟩
        case round =>
          obtain ⟨j, hj, rfl, HJ⟩ := hrel
          by_cases hj0 : 0 < j
          · have hj0' : (0 : Int) < (j : Int) := by omega
            have hp : j ≤ (Gk f k).length := by rw [len_Gk]; exact hj
            have Hp := hide hp
            clear hp
            have HRD : Hid (∀ W, SInv w b (Gk f k) ((List.range' (k + 1) (n - (k + 1))).map f) (f k) j W → DAt W b 0 j (f k) ∧ DAt W b 0 (j - 1) ((Gk f k).getD (j - 1) zD) ∧ ∀ o, W.frozen? ⟨b, o, none⟩ = false) := hide (fun W h => h.reads hj0 (unhide Hp))
            have HSW : Hid (∀ W, SInv w b (Gk f k) ((List.range' (k + 1) (n - (k + 1))).map f) (f k) j W → (f k).fl < ((Gk f k).getD (j - 1) zD).fl → SInv w b (Gk f k) ((List.range' (k + 1) (n - (k + 1))).map f) (f k) (j - 1) (swapped W b j (j - 1) ((Gk f k).getD (j - 1) zD) (f k))) :=
              hide (fun W hW h => hW.swap hj0 (unhide Hp) h)
            have HL : Hid (((Gk f k).getD (j - 1) zD).fl ≤ (f k).fl → OInv w b n f (k + 1) wr) := hide (fun h => (unhide HJ).leave hlt hj (unhide hD) (fun _ => h))
            have y1 : (j : Int) - 1 = ((j - 1 : Nat) : Int) := by omega
            have y2 : j - 1 < n := by omega
            have y3 : j < n := by omega
            have y4 : (j : Int) < (n : Int) := by omega
            generalize hx : (Gk f k).getD (j - 1) zD = x at *
            clear hx
            generalize hjm : j - 1 = m at *
            have Hm := hide hjm
            clear hjm
            obtain ⟨⟨_, d2, _⟩, ⟨_, e2, _⟩, _⟩ := unhide HRD wr (unhide HJ)
            simp only [Nat.zero_add] at d2 e2
            by_cases hc : x.fl ≤ (f k).fl
            · have hdec : decide ((f k).fl < x.fl) = false := by simp; omega
              go_wp2_with fail
              go_quiet (fail)
              go_wp2_with fail
              go_roundw
              case rel => exact ⟨k + 1, by omega, by omega, by go_num, hide (by exact ⟨(unhide HL hc).1, (unhide HL hc).2.1.drewN _, (unhide HL hc).2.2⟩)⟩
              case measure => simp [intOf]; omega
            · have hc' : (f k).fl < x.fl := by omega
              have hdec : decide ((f k).fl < x.fl) = true := by simp; omega
              go_wp2_with fail
              go_quiet (fail)
              have HJ1 := hide ((unhide HJ).drewN nq)
              clear HL d2 e2 HJ
              generalize wr.drewN nq = w1 at *
              obtain ⟨⟨d1, d2, d3, d4⟩, ⟨e1, e2, e3, e4⟩, r3⟩ := unhide HRD w1 (unhide HJ1)
              simp only [Nat.zero_add] at d1 d2 d3 d4 e1 e2 e3 e4
              have g0 := r3 (j * 4)
              have g1 := r3 (j * 4 + 1)
              have g2 := r3 (j * 4 + 2)
              have g3 := r3 (j * 4 + 3)
              have g4 := r3 (m * 4)
              have g5 := r3 (m * 4 + 1)
              have g6 := r3 (m * 4 + 2)
              have g7 := r3 (m * 4 + 3)
              have hbw : b < w1.heap.size := Nat.lt_of_lt_of_le (unhide HJ1).2.2.2 (unhide HJ1).2.2.1.size
              have hbw' : ¬ b = w1.heap.size := by omega
              have hbw'' : ¬ w1.heap.size = b := by omega
              have HF := hide (unhide HSW w1 (unhide HJ1) hc')
              have hjm1 : ¬ j = m := by have := unhide Hm; omega
              have hjm2 : ¬ m = j := by have := unhide Hm; omega
              have z0 : ¬ j * 4 = m * 4 := by have := unhide Hm; omega
              have z1 : ¬ m * 4 = j * 4 := by have := unhide Hm; omega
              have z2 : ¬ j * 4 = m * 4 + 1 := by have := unhide Hm; omega
              have z3 : ¬ m * 4 + 1 = j * 4 := by have := unhide Hm; omega
              have z4 : ¬ j * 4 = m * 4 + 2 := by have := unhide Hm; omega
              have z5 : ¬ m * 4 + 2 = j * 4 := by have := unhide Hm; omega
              have z6 : ¬ j * 4 = m * 4 + 3 := by have := unhide Hm; omega
              have z7 : ¬ m * 4 + 3 = j * 4 := by have := unhide Hm; omega
              have z8 : ¬ j * 4 + 1 = m * 4 := by have := unhide Hm; omega
              have z9 : ¬ m * 4 = j * 4 + 1 := by have := unhide Hm; omega
              have z10 : ¬ j * 4 + 1 = m * 4 + 1 := by have := unhide Hm; omega
              have z11 : ¬ m * 4 + 1 = j * 4 + 1 := by have := unhide Hm; omega
              have z12 : ¬ j * 4 + 1 = m * 4 + 2 := by have := unhide Hm; omega
              have z13 : ¬ m * 4 + 2 = j * 4 + 1 := by have := unhide Hm; omega
              have z14 : ¬ j * 4 + 1 = m * 4 + 3 := by have := unhide Hm; omega
              have z15 : ¬ m * 4 + 3 = j * 4 + 1 := by have := unhide Hm; omega
              have z16 : ¬ j * 4 + 2 = m * 4 := by have := unhide Hm; omega
              have z17 : ¬ m * 4 = j * 4 + 2 := by have := unhide Hm; omega
              have z18 : ¬ j * 4 + 2 = m * 4 + 1 := by have := unhide Hm; omega
              have z19 : ¬ m * 4 + 1 = j * 4 + 2 := by have := unhide Hm; omega
              have z20 : ¬ j * 4 + 2 = m * 4 + 2 := by have := unhide Hm; omega
              have z21 : ¬ m * 4 + 2 = j * 4 + 2 := by have := unhide Hm; omega
              have z22 : ¬ j * 4 + 2 = m * 4 + 3 := by have := unhide Hm; omega
              have z23 : ¬ m * 4 + 3 = j * 4 + 2 := by have := unhide Hm; omega
              have z24 : ¬ j * 4 + 3 = m * 4 := by have := unhide Hm; omega
              have z25 : ¬ m * 4 = j * 4 + 3 := by have := unhide Hm; omega
              have z26 : ¬ j * 4 + 3 = m * 4 + 1 := by have := unhide Hm; omega
              have z27 : ¬ m * 4 + 1 = j * 4 + 3 := by have := unhide Hm; omega
              have z28 : ¬ j * 4 + 3 = m * 4 + 2 := by have := unhide Hm; omega
              have z29 : ¬ m * 4 + 2 = j * 4 + 3 := by have := unhide Hm; omega
              have z30 : ¬ j * 4 + 3 = m * 4 + 3 := by have := unhide Hm; omega
              have z31 : ¬ m * 4 + 3 = j * 4 + 3 := by have := unhide Hm; omega
              clear r3 HRD HSW
              go_wp2_with fail
              go_roundw
              case rel => refine ⟨m, by have := unhide Hm; omega, rfl, ?_⟩; unfold swapped at HF; exact HF
              case measure => simp [intOf]; have := unhide Hm; omega
          · have hj00 : j = 0 := by omega
            subst hj00
            have HL : Hid (OInv w b n f (k + 1) wr) := hide ((unhide HJ).leave hlt hj (unhide hD) (fun h => absurd h (by omega)))
            go_wp2_with fail
            go_quiet (fail)
            go_wp2_with fail
            go_roundw
            case rel => exact ⟨k + 1, by omega, by omega, by go_num, hide (by exact ⟨(unhide HL).1, (unhide HL).2.1.drewN _, (unhide HL).2.2⟩)⟩
            case measure => simp [intOf]; omega
      · go_wp2_with fail
        first | go_end0 | refine bodyPost_ret (results_none rfl _ _ _) rfl ?_
        exact ⟨rfl, fun _ => (unhide HI).finish (by omega), (unhide HI).2.1⟩
end Go.Proofs.Qxb6002619a
