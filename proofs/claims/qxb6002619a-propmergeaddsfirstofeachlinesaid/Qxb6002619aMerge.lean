/- (*List).Merge -/
import Derived.Test.Qxb6002619aAdd2
import Derived.Test.Qxb6002619aCompact
import Derived.Test.Qxb6002619aStb
namespace Go.Proofs.Qxb6002619a
open Go.ChangeShapes Go.WideShapes Go.ChangeAt Go.RowKit
set_option linter.unusedVariables false
set_option linter.unusedSimpArgs false

/-- a list behind the additions of D -/
def LIv (P : Nat → Prop) (w : World) (lb : Nat) (D : List Dg) (W : World) : Prop :=
  ∃ a' m c', blkOf W lb = [.slice a' m c', .int .i64 (D.length : Int)] ∧ ShP W P lb a' m c' ((G D).take 50) ∧ Hold P w W ∧ Free P lb ∧ ∀ k, w.heap.size ≤ k → Free P k
def OkD (D : List Dg) : Prop := Dis D ∧ ∀ y ∈ D, 0 < y.fl ∧ y.fl ≤ 9223372036854775807
theorem OkD.sub {D D' : List Dg} (h : OkD D') (hs : D.Sublist D') : OkD D := ⟨List.Pairwise.sublist hs h.1, fun y hy => h.2 y (hs.subset hy)⟩
theorem LIv.add {P : Nat → Prop} {w : World} {lb : Nat} {D : List Dg} {d : Dg} {W : World} (h : LIv P w lb D W) (hD : OkD (D ++ [d])) (hl : D.length ≤ 1048576) :
    Calls Try.prog 6 #[.pointer (some ⟨lb, 0, none⟩), .agg #[.int .i64 d.line, .int .i64 d.fl, .string d.text, .bool d.warn]] W fun e w' => e = .returned (.tuple #[]) ∧ LIv P w lb (D ++ [d]) w' := by
  obtain ⟨a', m, c', h1, h2, h3, h4, h5⟩ := h
  have hm : m ≤ 50 := by have := h2.1; simp at this; omega
  have hD0 : OkD D := hD.sub (by simp)
  have hd := hD.2 d (by simp)
  refine (add_any2 P lb m c' a' ((G D).take 50) d D.length W h1 (hide h2) h4 (hide fun k hk => h5 k (Nat.le_trans h3.size hk)) hm (hide (Pos_of fun y hy => hD0.2 y ((mem_G D y).1 (List.mem_of_mem_take hy)))) (hide (Asc_of (asc_take (asc_G hD0.1) 50))) hd.1 hd.2 (by omega) (by omega)).mono ?_
  rintro e w' ⟨rfl, a2, n2, c2, q1, q2, q3⟩
  refine ⟨rfl, a2, n2, c2, by rw [q1]; simp, ?_, h3.trans q3, h4, h5⟩
  rw [G_snoc, ← insD_take]; exact q2
theorem LIv.below {P : Nat → Prop} {w : World} {lb : Nat} {D : List Dg} {W W' : World} (h : LIv P w lb D W) (hb : Below W.heap.size W W') : LIv P w lb D W' := by
  obtain ⟨a', m, c', h1, h2, h3, h4, h5⟩ := h
  have l1 : lb < W.heap.size := blk_lt (o := 0) (by rw [h1]; simp)
  exact ⟨a', m, c', by rw [blk_below hb l1]; exact h1, h2.below hb, h3.trans (Hold.ofBelow hb), h4, h5⟩
theorem ShP.kept {P P' : Nat → Prop} {lb cb : Nat} {W W' : World} {a : Option Addr} {n c : Nat} {S : List Dg} (h : ShP W P lb a n c S) (hk : Kept cb W W') (hcb : W.heap.size ≤ cb) (hP : ∀ k, k < W.heap.size → Free P k → Free P' k) : ShP W' P' lb a n c S := by
  obtain ⟨hl, h⟩ := h
  refine ⟨hl, ?_⟩
  rcases h with h | ⟨b, xs, h0, h1, h2, h3, h4, h0c, h5, h6, h7⟩
  · exact Or.inl h
  · have hb : b < W.heap.size := blk_lt (o := 0) (by rw [h1, len_row]; omega)
    exact Or.inr ⟨b, xs, h0, by rw [hk.blk hb (by omega)]; exact h1, h2, h3, h4, h0c, h5, hP b hb h6, h7⟩
theorem ShP.mono {P P' : Nat → Prop} {lb : Nat} {W : World} {a : Option Addr} {n c : Nat} {S : List Dg} (h : ShP W P lb a n c S) (hP : ∀ k, Free P k → Free P' k) : ShP W P' lb a n c S := by
  obtain ⟨hl, h⟩ := h
  refine ⟨hl, ?_⟩
  rcases h with h | ⟨b, xs, h0, h1, h2, h3, h4, h0c, h5, h6, h7⟩
  · exact Or.inl h
  · exact Or.inr ⟨b, xs, h0, h1, h2, h3, h4, h0c, h5, hP b h6, h7⟩
/-- one block more that stays -/
def Plus (P : Nat → Prop) (cb : Nat) : Nat → Prop := fun k => P k ∨ k = cb
theorem LIv.plus {P : Nat → Prop} {w : World} {lb cb : Nat} {D : List Dg} {W0 W2 : World} (h : LIv P w lb D W0) (hk : Kept cb W0 W2) (hcb : W0.heap.size ≤ cb) (hcb2 : cb < W2.heap.size) : LIv (Plus P cb) W2 lb D W2 := by
  obtain ⟨a', m, c', h1, h2, h3, h4, h5⟩ := h
  have l1 : lb < W0.heap.size := blk_lt (o := 0) (by rw [h1]; simp)
  refine ⟨a', m, c', by rw [hk.blk l1 (by omega)]; exact h1, h2.kept hk hcb fun k k1 k2 k3 => ?_, Hold.refl _ _, fun k3 => ?_, fun k k1 k3 => ?_⟩
  · rcases k3 with k3 | k3
    · exact k2 k3
    · omega
  · rcases k3 with k3 | k3
    · exact h4 k3
    · omega
  · rcases k3 with k3 | k3
    · exact h5 k (by have := h3.size; have := hk.size; omega) k3
    · omega
theorem LIv.minus {P : Nat → Prop} {w : World} {lb cb : Nat} {D D' : List Dg} {W0 W2 W : World} (h0 : LIv P w lb D' W0) (hk : Kept cb W0 W2) (hcb : W0.heap.size ≤ cb) (h : LIv (Plus P cb) W2 lb D W) : LIv P w lb D W := by
  obtain ⟨a', m, c', h1, h2, h3, h4, h5⟩ := h
  obtain ⟨_, _, _, _, _, g3, g4, g5⟩ := h0
  refine ⟨a', m, c', h1, h2.mono fun k hk hp => hk (Or.inl hp), (g3.trans (Hold.ofKept hk (g5 cb (Nat.le_trans g3.size hcb)))).trans ⟨h3.os, h3.tape, h3.output, h3.size, fun k hp hl => h3.block k (Or.inl hp) hl⟩, g4, g5⟩
theorem LIv.reads {P : Nat → Prop} {lb cb i : Nat} {D : List Dg} {W2 W : World} {d : Dg} (h : LIv (Plus P cb) W2 lb D W) (hcb : cb < W2.heap.size) (hd : DAt W2 cb 0 i d) : DAt W cb 0 i d := by
  obtain ⟨_, _, _, _, _, h3, _, _⟩ := h
  have hb := h3.block cb (Or.inr rfl) hcb
  obtain ⟨d1, d2, d3, d4⟩ := hd
  exact ⟨by rw [World.cell?_of_block (w := W2) hb]; exact d1, by rw [World.cell?_of_block (w := W2) hb]; exact d2, by rw [World.cell?_of_block (w := W2) hb]; exact d3, by rw [World.cell?_of_block (w := W2) hb]; exact d4⟩
set_option maxHeartbeats 800000 in
theorem compact_small (a : Option Addr) (n : Nat) (w : World) (hn : n < 2) :
    Calls Try.prog 20 #[.slice a n n, .func (.func 19) #[] #[]] w fun e w' => e = .returned (.slice a n n) ∧ w' = w := by
  have hn' : (n : Int) < 2 := by omega
  go_enter Try.func20, Try.ntmps20
  go_wp2_with fail
  go_ret
  exact ⟨rfl, rfl⟩
theorem compact_all (b n : Nat) (F : Nat → Dg) (w : World) (hn : n ≤ 4096) (hn0 : 0 < n) (hM : Mem w b n F) (hS : Srt F 0 n) :
    Calls Try.prog 20 #[.slice (some ⟨b, 0, none⟩) n n, .func (.func 19) #[] #[]] w fun e w' => CoPost w b n F e w' := by
  by_cases h2 : 2 ≤ n
  · exact compact_any b n F w hn h2 (hide hM) (hide hS)
  · have e1 : n = 1 := by omega
    subst e1
    refine (compact_small (some ⟨b, 0, none⟩) 1 w (by omega)).mono ?_
    rintro e w' ⟨rfl, rfl⟩
    refine ⟨1, rfl, by rw [fst1_one]; simp, fun i hi => ?_, Kept.refl _ _⟩
    rw [fst1_one, getD_rangeMap F 1 i hi]; exact hM.dat i hi
def MgPost (P : Nat → Prop) (w : World) (lb n : Nat) (H : Nat → Dg) (D : List Dg) (e : Ending) (w' : World) : Prop :=
  e = .returned (.tuple #[]) ∧ ∃ F, Stab n H F ∧ LIv P w lb (D ++ fst1 F n) w'
theorem take_getD (L : List Dg) (i : Nat) (h : i < L.length) : L.take i ++ [L.getD i zD] = L.take (i + 1) := by
  rw [List.take_add_one, List.getD_eq_getElem?_getD, List.getElem?_eq_getElem h]; rfl

set_option maxRecDepth 100000 in
set_option maxHeartbeats 3200000 in
theorem merge_any (P : Nat → Prop) (w W0 W : World) (lb cb n : Nat) (H : Nat → Dg) (D : List Dg) (hL : Hid (LIv P w lb D W0)) (hB : Hid (Below W0.heap.size W0 W)) (hcb : Hid (W0.heap.size ≤ cb)) (hn : n ≤ 4096) (hn0 : 0 < n) (hM : Hid (Mem W cb n H)) (hP : Hid (PosD n H)) (hO : Hid (∀ F, Stab n H F → OkD (D ++ fst1 F n))) (hD : D.length ≤ 4096) :
    Calls Try.prog 13 #[.pointer (some ⟨lb, 0, none⟩), .slice (some ⟨cb, 0, none⟩) n n] W fun e w' => MgPost P w lb n H D e w' := by
  have hn' : (n : Int) ≤ 4096 := by omega
  have C1 := hide (sort17 cb n n H W hn hn0 hM hP)
  go_enter Try.func13, Try.ntmps13
  go_wp2_with fail
  refine (unhide C1).mono ?_
  rintro e W1 ⟨F, ⟨rfl, m1, k1⟩, x1, s1⟩
  have C2 := hide (compact_all cb n F W1 hn hn0 m1 s1)
  have HK1 := hide k1
  have HX := hide x1.stab
  have hlt := m1.lt hn0
  clear m1 k1 x1 s1 C1
  go_wp2_with fail
  refine (unhide C2).mono ?_
  rintro e W2 ⟨m, rfl, hm, hd, k2⟩
  have HK : Hid (Kept cb W0 W2) := hide ((Kept.ofBelow (unhide hB)).trans ((unhide HK1).trans k2))
  have hlt2 : cb < W2.heap.size := Nat.lt_of_lt_of_le hlt k2.size
  have Hd := hide hd
  have Hm := hide hm
  have hm4 : m ≤ 4096 := by have := fst1_len F n; omega
  have hm4' : (m : Int) ≤ 4096 := by omega
  have HL2 := hide ((unhide hL).plus (unhide HK) (unhide hcb) hlt2)
  have HO2 := hide (unhide hO F (unhide HX))
  clear hd hm k2 C2 HK1 hB hM hP hO
  go_wp2_with fail
  go_loopw [13] (fun i wr => ∃ k : Nat, k ≤ m ∧ i = .int .i64 k ∧ Hid (LIv (Plus P cb) W2 lb (D ++ (fst1 F n).take k) wr)) (fun i _ => m - (intOf i).toNat)
  case atStart => exact ⟨0, Nat.zero_le _, rfl, by rw [List.take_zero, List.append_nil]; exact HL2⟩
  case round =>
    clear HL2
    obtain ⟨k, hk, rfl, HI⟩ := hrel
    by_cases hlt : k < m
    · have hlt' : (k : Int) < (m : Int) := by omega
      obtain ⟨d1, d2, d3, d4⟩ := (unhide HI).reads hlt2 (unhide Hd k hlt)
      simp only [Nat.zero_add] at d1 d2 d3 d4
      have C6 : Hid (∀ W', Below wr.heap.size wr W' → Calls Try.prog 6 #[.pointer (some ⟨lb, 0, none⟩), .agg #[.int .i64 ((fst1 F n).getD k zD).line, .int .i64 ((fst1 F n).getD k zD).fl, .string ((fst1 F n).getD k zD).text, .bool ((fst1 F n).getD k zD).warn]] W' fun e w' => e = .returned (.tuple #[]) ∧ LIv (Plus P cb) W2 lb (D ++ (fst1 F n).take (k + 1)) w') := hide (fun W' hW => by
        have e := take_getD (fst1 F n) k (by have := unhide Hm; omega)
        have := ((unhide HI).below hW).add (d := (fst1 F n).getD k zD) (by rw [List.append_assoc, e]; exact (unhide HO2).sub (List.Sublist.append (List.Sublist.refl _) (List.take_sublist _ _))) (by simp; omega)
        rw [List.append_assoc, e] at this
        exact this)
      clear HI
      generalize (fst1 F n).getD k zD = d at *
      go_wp2_with fail
      refine (unhide C6 _ ?_).mono ?_
      · repeat (refine Below.setCell ?_ (Nat.le_refl _) _)
        exact (Below.refl _ _).alloc (Nat.le_refl _) _
      rintro e w3 ⟨rfl, h3⟩
      have HI3 := hide h3
      clear h3 C6
      go_wp2_with fail
      go_roundw
      case rel => exact ⟨k + 1, by omega, by go_num, HI3⟩
      case measure => simp [intOf]; omega
    · have ek : k = m := by omega
      subst ek
      go_wp2_with fail
      first | go_end0 | refine bodyPost_ret (results_none rfl _ _ _) rfl ?_
      refine ⟨rfl, F, unhide HX, (unhide hL).minus (unhide HK) (unhide hcb) ?_⟩
      have := unhide HI
      rwa [List.take_of_length_le (by have := unhide Hm; omega)] at this
set_option maxRecDepth 100000 in
set_option maxHeartbeats 1600000 in
theorem merge_nil (a : Option Addr) (lb : Nat) (w : World) :
    Calls Try.prog 13 #[.pointer (some ⟨lb, 0, none⟩), .slice a 0 0] w fun e w' => e = .returned (.tuple #[]) ∧ w' = w := by
  have C1 := hide (sort17_nil a 0 w)
  have C2 := hide (compact_small a 0 w (by omega))
  go_enter Try.func13, Try.ntmps13
  go_wp2_with fail
  refine (unhide C1).mono ?_
  rintro e w1 ⟨rfl, rfl⟩
  go_wp2_with fail
  refine (unhide C2).mono ?_
  rintro e w2 ⟨rfl, rfl⟩
  go_wp2_with fail
  go_loopw [13] (fun i wr => i = .int .i64 0 ∧ wr = w2) (fun _ _ => 0)
  case atStart => exact ⟨rfl, rfl⟩
  case round =>
    obtain ⟨rfl, rfl⟩ := hrel
    go_wp2_with fail
    first | go_end0 | refine bodyPost_ret (results_none rfl _ _ _) rfl ?_
    exact ⟨rfl, rfl⟩
end Go.Proofs.Qxb6002619a
