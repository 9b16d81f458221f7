/- (*List).Add again: with any set of blocks that stay -/
import Derived.Test.Qxb6002619aAdd
namespace Go.Proofs.Qxb6002619a
open Go.ChangeShapes Go.WideShapes Go.ChangeAt Go.RowKit
set_option linter.unusedVariables false
set_option linter.unusedSimpArgs false

def Free (P : Nat → Prop) (k : Nat) : Prop := ¬ P k
/-- the blocks of P stay -/
structure Hold (P : Nat → Prop) (w w' : World) : Prop where
  os : w'.os = w.os
  tape : w'.tape = w.tape
  output : w'.output = w.output
  size : w.heap.size ≤ w'.heap.size
  block : ∀ k, P k → k < w.heap.size → w'.heap[k]? = w.heap[k]?
theorem Hold.refl (P : Nat → Prop) (w : World) : Hold P w w := ⟨rfl, rfl, rfl, Nat.le_refl _, fun _ _ _ => rfl⟩
theorem Hold.trans {P : Nat → Prop} {w w1 w2 : World} (h : Hold P w w1) (k : Hold P w1 w2) : Hold P w w2 :=
  ⟨k.os.trans h.os, k.tape.trans h.tape, k.output.trans h.output, Nat.le_trans h.size k.size, fun i hp hi => (k.block i hp (Nat.lt_of_lt_of_le hi h.size)).trans (h.block i hp hi)⟩
theorem Hold.ofBelow {P : Nat → Prop} {w w1 : World} (h : Below w.heap.size w w1) : Hold P w w1 := ⟨h.os, h.tape, h.output, h.size, fun k _ hk => h.block k hk⟩
theorem Hold.ofKept {P : Nat → Prop} {b : Nat} {w w1 : World} (h : Kept b w w1) (hb : Free P b) : Hold P w w1 := ⟨h.os, h.tape, h.output, h.size, fun k hp hk => h.block k hk fun e => hb (e ▸ hp)⟩
theorem Hold.setCell {P : Nat → Prop} {w w1 : World} (h : Hold P w w1) {p : Addr} (hp : Free P p.block) (u : Value) : Hold P w (w1.setCell p u) :=
  h.trans ⟨rfl, rfl, rfl, by simp [World.setCell], fun k hk _ => Below.heap_setCell _ _ _ _ fun e => hp (e ▸ hk)⟩
theorem Hold.alloc {P : Nat → Prop} {w w1 : World} (h : Hold P w w1) (o : Obj) : Hold P w (w1.alloc o) := h.trans (Hold.ofBelow ((Below.refl _ _).alloc (Nat.le_refl _) _))
theorem Hold.below {P : Nat → Prop} {w w1 : World} (h : Hold P w w1) {B : Nat} (hB : B ≤ w.heap.size) (hP : ∀ k, k < B → P k) : Below B w w1 := ⟨h.os, h.tape, h.output, h.size, fun k hk => h.block k (hP k hk) (by omega)⟩
theorem Hold.blk {P : Nat → Prop} {w w1 : World} (h : Hold P w w1) {k : Nat} (hP : P k) (hk : k < w.heap.size) : blkOf w1 k = blkOf w k := blk_of_block (h.block k hP hk)

/-- the list's shown slice in memory -/
def ShP (W : World) (P : Nat → Prop) (lb : Nat) (a : Option Addr) (n c : Nat) (S : List Dg) : Prop :=
  S.length = n ∧ ((a = none ∧ n = 0 ∧ c = 0) ∨ ∃ b xs, a = some ⟨b, 0, none⟩ ∧ blkOf W b = row xs ∧ xs.length = c ∧ n ≤ c ∧ c ≤ 9223372036854775807 ∧ 0 < c ∧ S = xs.take n ∧ Free P b ∧ b ≠ lb)
theorem insert_any2 (a : Option Addr) (P : Nat → Prop) (lb n c vb : Nat) (S : List Dg) (d : Dg) (w : World) (i : Nat) (h : ShP w P lb a n c S) (hn : n ≤ 50) (hi : i ≤ n) (hv : blkOf w vb = row [d]) (hvb : ∀ b, a = some ⟨b, 0, none⟩ → vb ≠ b) (hlb : lb < w.heap.size) (hvl : Free P lb) (hPw : ∀ k, w.heap.size ≤ k → Free P k) :
    Calls Try.prog 16 #[.slice a n c, .int .i64 (i : Int), .slice (some ⟨vb, 0, none⟩) 1 1] w fun e w' => ∃ b, (0 < c → a = some ⟨b, 0, none⟩) ∧ Free P b ∧ b ≠ lb ∧ InsPost S i d b w e w' := by
  obtain ⟨hl, h⟩ := h
  rcases h with ⟨rfl, rfl, rfl⟩ | ⟨b, xs, rfl, h1, h2, h3, h4, h0c, h5, h6, h7⟩
  · have hi0 : i = 0 := by omega
    subst hi0
    refine (ins_end_grow none w.heap.size 0 vb [] S d w 0 hl (by omega) (Or.inl ⟨rfl, rfl, rfl⟩) rfl hv).mono fun e w' he => ⟨w.heap.size, fun h => absurd h (by omega), hPw _ (Nat.le_refl _), by omega, he⟩
  · have hvb' := hvb b rfl
    by_cases hin : i = n
    · subst hin
      by_cases hr : i + 1 ≤ c
      · exact (ins_end_room b c vb xs S d w i hl hn h1 h2 h4 h5 hr hvb' hv).mono fun e w' he => ⟨b, fun _ => rfl, h6, h7, he⟩
      · exact (ins_end_grow (some ⟨b, 0, none⟩) b c vb xs S d w i hl hn (Or.inr ⟨rfl, h1, h2, h5⟩) (by omega) hv).mono fun e w' he => ⟨b, fun _ => rfl, h6, h7, he⟩
    · by_cases hr : n + 1 ≤ c
      · exact (ins_shift b c vb xs S d w n i (by omega) hl hn h1 h2 h4 h5 hr hvb' hv).mono fun e w' he => ⟨b, fun _ => rfl, h6, h7, he⟩
      · exact (ins_grow b c vb xs S d w n i (by omega) hl hn h1 h2 h5 (by omega) hvb' hv).mono fun e w' he => ⟨b, fun _ => rfl, h6, h7, he⟩
theorem ShP.below {P : Nat → Prop} {lb : Nat} {W W' : World} {a : Option Addr} {n c : Nat} {S : List Dg} (h : ShP W P lb a n c S) (hb : Below W.heap.size W W') : ShP W' P lb a n c S := by
  obtain ⟨hl, h⟩ := h
  refine ⟨hl, ?_⟩
  rcases h with h | ⟨b, xs, h0, h1, h2, h3, h4, h0c, h5, h6, h7⟩
  · exact Or.inl h
  · refine Or.inr ⟨b, xs, h0, ?_, h2, h3, h4, h0c, h5, h6, h7⟩
    rw [blk_below hb (blk_lt (o := 0) (by rw [h1, len_row]; omega))]; exact h1
/-- what bsearch reads of it -/
theorem ShP.reads {P : Nat → Prop} {lb : Nat} {W : World} {a : Option Addr} {n c : Nat} {S : List Dg} (h : ShP W P lb a n c S) (hW : 0 < W.heap.size) : ∃ b, b < W.heap.size ∧ Hid (0 < n → a = some ⟨b, 0, none⟩) ∧ Hid (∀ i, i < n → DAt W b 0 i (S.getD i zD)) := by
  obtain ⟨hl, h⟩ := h
  rcases h with ⟨rfl, rfl, rfl⟩ | ⟨b, xs, h0, h1, h2, h3, h4, h0c, h5, h6, h7⟩
  · exact ⟨0, hW, hide fun h => absurd h (Nat.lt_irrefl 0), hide fun i hi => absurd hi (Nat.not_lt_zero i)⟩
  · refine ⟨b, blk_lt (o := 0) (by rw [h1, len_row]; omega), hide fun _ => h0, hide fun i hi => ?_⟩
    have := DAt_row h1 i (by omega)
    rwa [show S.getD i zD = xs.getD i zD by rw [h5, List.getD_eq_getElem?_getD, List.getD_eq_getElem?_getD, List.getElem?_take, if_pos hi]]
/-- the front of it -/
theorem ShP.shorter {P : Nat → Prop} {lb : Nat} {W : World} {a : Option Addr} {n c : Nat} {S : List Dg} (h : ShP W P lb a n c S) (m : Nat) (hm : m ≤ n) (hp : 0 < n) : ShP W P lb a m c (S.take m) := by
  obtain ⟨hl, h⟩ := h
  refine ⟨by simp; omega, ?_⟩
  rcases h with ⟨rfl, rfl, rfl⟩ | ⟨b, xs, h0, h1, h2, h3, h4, h0c, h5, h6, h7⟩
  · omega
  · exact Or.inr ⟨b, xs, h0, h1, h2, by omega, h4, h0c, by rw [h5, List.take_take, Nat.min_eq_left hm], h6, h7⟩
/-- what holds in Add behind its first statements -/
def AIn2 (w : World) (P : Nat → Prop) (lb : Nat) (a : Option Addr) (n c : Nat) (S : List Dg) (d : Dg) (cnt : Int) (W : World) : Prop :=
  blkOf W lb = [.slice a n c, .int .i64 cnt] ∧ blkOf W w.heap.size = row [d] ∧ ShP W P lb a n c S ∧ Hold P w W ∧ Free P lb ∧ lb < w.heap.size
theorem AIn2.below {w : World} {P : Nat → Prop} {lb : Nat} {a : Option Addr} {n c : Nat} {S : List Dg} {d : Dg} {cnt : Int} {W W' : World} (h : AIn2 w P lb a n c S d cnt W) (hb : Below W.heap.size W W') : AIn2 w P lb a n c S d cnt W' := by
  obtain ⟨h1, h2, h3, h4, h5, h6⟩ := h
  have l1 : lb < W.heap.size := blk_lt (o := 0) (by rw [h1]; simp)
  have l2 : w.heap.size < W.heap.size := blk_lt (o := 0) (by rw [h2, len_row]; simp)
  exact ⟨by rw [blk_below hb l1]; exact h1, by rw [blk_below hb l2]; exact h2, h3.below hb, h4.trans (Hold.ofBelow hb), h5, h6⟩
theorem AIn2.cells {w : World} {P : Nat → Prop} {lb : Nat} {a : Option Addr} {n c : Nat} {S : List Dg} {d : Dg} {cnt : Int} {W : World} (h : AIn2 w P lb a n c S d cnt W) :
    W.cell? ⟨lb, 0, none⟩ = some (.slice a n c) ∧ W.cell? ⟨w.heap.size, 1, none⟩ = some (.int .i64 d.fl) ∧ AIn2 w P lb a n c S d cnt W := by
  have h' := h
  obtain ⟨h1, h2, h3, h4, h5, h6⟩ := h
  exact ⟨by rw [blk_cell (by rw [h1]; simp), h1]; rfl, by rw [blk_cell (by rw [h2, len_row]; simp), h2]; rfl, h'⟩
theorem AIn2.drew {w : World} {P : Nat → Prop} {lb : Nat} {a : Option Addr} {n c : Nat} {S : List Dg} {d : Dg} {cnt : Int} {W : World} (h : AIn2 w P lb a n c S d cnt W) : AIn2 w P lb a n c S d cnt W.drew :=
  h.below ((Below.refl _ _).drew)
/-- behind the insertion -/
def InPost2 (w : World) (P : Nat → Prop) (lb : Nat) (a : Option Addr) (m c : Nat) (T : List Dg) (cnt : Int) (e : Ending) (w' : World) : Prop :=
  ∃ b' cap, e = .returned (.slice (some ⟨b', 0, none⟩) (m + 1) cap) ∧ blkOf w' lb = [.slice a m c, .int .i64 cnt] ∧ ShP w' P lb (some ⟨b', 0, none⟩) (m + 1) cap T ∧ Hold P w w'
theorem insert_inv2 {w W3 W : World} {P : Nat → Prop} {lb m c vb i : Nat} {a : Option Addr} {S : List Dg} {d : Dg} {cnt : Int} (hPw : ∀ k, w.heap.size ≤ k → Free P k) (h : AIn2 w P lb a m c S d cnt W3) (hB : Below W3.heap.size W3 W) (hvb : W3.heap.size ≤ vb) (hv : blkOf W vb = row [d]) (hm : m ≤ 50) (hi : i ≤ m) :
    Calls Try.prog 16 #[.slice a m c, .int .i64 (i : Int), .slice (some ⟨vb, 0, none⟩) 1 1] W fun e w' => InPost2 w P lb a m c (S.take i ++ [d] ++ S.drop i) cnt e w' := by
  have h' := h.below hB
  obtain ⟨h1, h2, h3, h4, h5, h6⟩ := h'
  have l1 : lb < W.heap.size := blk_lt (o := 0) (by rw [h1]; simp)
  refine (insert_any2 a P lb m c vb S d W i h3 hm hi hv ?_ l1 h5 (fun k hk => hPw k (Nat.le_trans h4.size hk))).mono ?_
  · rintro b rfl
    obtain ⟨q1, q2⟩ := h.2.2.1
    rcases q2 with ⟨q2, _⟩ | ⟨b2, xs, g0, g1, g2, g3, g4, g0c, g5, g6, g7⟩
    · cases q2
    · cases g0
      have : b < W3.heap.size := blk_lt (o := 0) (by rw [g1, len_row]; omega)
      omega
  · rintro e w' ⟨b, q0, q1, q2, b', cap, xs, rfl, p1, p2, p3, p4, p5, p6⟩
    have hl : S.length = m := h3.1
    have hxl : m + 1 ≤ xs.length := by
      have := congrArg List.length p4
      simp at this; omega
    rw [hl]
    refine ⟨b', cap, rfl, ?_, ⟨?_, Or.inr ⟨b', xs, rfl, p1, p2, by omega, p3, by omega, ?_, ?_, ?_⟩⟩, h4.trans (Hold.ofKept p6 q1)⟩
    · rw [p6.blk l1 (Ne.symm q2)]; exact h1
    · simp; omega
    · rw [← hl, p4]
    · rcases p5 with p5 | p5
      · rw [p5]; exact q1
      · exact hPw _ (Nat.le_trans h4.size p5)
    · rcases p5 with p5 | p5 <;> omega
theorem AIn2.more {w : World} {P : Nat → Prop} {lb : Nat} {a : Option Addr} {n c : Nat} {S : List Dg} {d : Dg} {cnt : Int} {W : World} (h : AIn2 w P lb a n c S d cnt W) :
    W.cell? ⟨lb, 0, none⟩ = some (.slice a n c) ∧ W.frozen? ⟨lb, 0, none⟩ = false ∧ W.cell? ⟨w.heap.size, 0, none⟩ = some (.int .i64 d.line) ∧ W.cell? ⟨w.heap.size, 1, none⟩ = some (.int .i64 d.fl) ∧ W.cell? ⟨w.heap.size, 2, none⟩ = some (.string d.text) ∧ W.cell? ⟨w.heap.size, 3, none⟩ = some (.bool d.warn) := by
  obtain ⟨h1, h2, h3, h4, h5, h6⟩ := h
  exact ⟨by rw [blk_cell (by rw [h1]; simp), h1]; rfl, blk_frozen (by rw [h1]; simp), by rw [blk_cell (by rw [h2, len_row]; simp), h2]; rfl, by rw [blk_cell (by rw [h2, len_row]; simp), h2]; rfl, by rw [blk_cell (by rw [h2, len_row]; simp), h2]; rfl, by rw [blk_cell (by rw [h2, len_row]; simp), h2]; rfl⟩

def AddPost2 (S : List Dg) (d : Dg) (P : Nat → Prop) (lb : Nat) (cnt : Int) (w : World) (e : Ending) (w' : World) : Prop :=
  e = .returned (.tuple #[]) ∧ ∃ a' n' c', blkOf w' lb = [.slice a' n' c', .int .i64 (cnt + 1)] ∧ ShP w' P lb a' n' c' ((insD d S).take 50) ∧ Hold P w w'

theorem add_end2 {w w3 : World} {P : Nat → Prop} {lb m c b' cap : Nat} {a : Option Addr} {T : List Dg} {S : List Dg} {d : Dg} {cnt : Int} (p1 : blkOf w3 lb = [.slice a m c, .int .i64 (cnt + 1)]) (p2 : ShP w3 P lb (some ⟨b', 0, none⟩) (m + 1) cap T) (p3 : Hold P w w3) (hT : T = (insD d S).take 50) (hbl : Free P lb) :
    AddPost2 S d P lb cnt w (.returned (.tuple #[])) (w3.setCell ⟨lb, 0, none⟩ (.slice (some ⟨b', 0, none⟩) (m + 1) cap)) := by
  refine ⟨rfl, some ⟨b', 0, none⟩, m + 1, cap, by rw [blk_setCell, if_pos rfl, p1]; rfl, ?_, p3.setCell (p := ⟨_, _, _⟩) hbl _⟩
  rw [← hT]
  obtain ⟨z1, z2⟩ := p2
  refine ⟨z1, ?_⟩
  rcases z2 with z2 | ⟨b, xs, h0, h1, h2, h3, h4, h0c, h5, h6, h7⟩
  · exact Or.inl z2
  · exact Or.inr ⟨b, xs, h0, by rw [blk_setCell, if_neg h7, h1], h2, h3, h4, h0c, h5, h6, h7⟩

set_option maxRecDepth 100000 in
set_option maxHeartbeats 1600000 in
theorem add_any2 (P : Nat → Prop) (lb n c : Nat) (a : Option Addr) (S : List Dg) (d : Dg) (cnt : Int) (w : World) (hlb : blkOf w lb = [.slice a n c, .int .i64 cnt]) (hS : Hid (ShP w P lb a n c S)) (hbl : Free P lb) (hPw : Hid (∀ k, w.heap.size ≤ k → Free P k)) (hn : n ≤ 50)
    (hp : Hid (Pos S)) (hs : Hid (Asc S)) (f0 : 0 < d.fl) (f1 : d.fl ≤ 9223372036854775807) (c0 : 0 ≤ cnt) (c1 : cnt ≤ 1048576) :
    Calls Try.prog 6 #[.pointer (some ⟨lb, 0, none⟩), .agg #[.int .i64 d.line, .int .i64 d.fl, .string d.text, .bool d.warn]] w fun e w' => AddPost2 S d P lb cnt w e w' := by
  have hl : lb < w.heap.size := blk_lt (o := 0) (by rw [hlb]; simp)
  have g0 : w.cell? ⟨lb, 0, none⟩ = some (.slice a n c) := by rw [blk_cell (by rw [hlb]; simp), hlb]; rfl
  have g1 : w.cell? ⟨lb, 1, none⟩ = some (.int .i64 cnt) := by rw [blk_cell (by rw [hlb]; simp), hlb]; rfl
  have g2 : w.frozen? ⟨lb, 1, none⟩ = false := blk_frozen (by rw [hlb]; simp)
  have g3 : w.frozen? ⟨lb, 0, none⟩ = false := blk_frozen (by rw [hlb]; simp)
  have hne : ¬ w.heap.size = lb := by omega
  have hne' : ¬ lb = w.heap.size := by omega
  have HA : Hid (AIn2 w P lb a n c S d (cnt + 1) ((w.setCell ⟨lb, 1, none⟩ (.int .i64 (cnt + 1))).alloc (.cells #[.int .i64 d.line, .int .i64 d.fl, .string d.text, .bool d.warn] 28))) := hide (by
    have hz : (w.setCell ⟨lb, 1, none⟩ (.int .i64 (cnt + 1))).heap.size = w.heap.size := by simp [World.setCell]
    refine ⟨?_, ?_, ?_, ?_, hbl, hl⟩
    · rw [blk_alloc, hz, if_neg hne', blk_setCell, if_pos rfl, hlb]; rfl
    · rw [blk_alloc, hz, if_pos rfl]; rfl
    · obtain ⟨q1, q2⟩ := unhide hS
      refine ⟨q1, ?_⟩
      rcases q2 with q2 | ⟨b, xs, h0, h1, h2, h3, h4, h0c, h5, h6, h7⟩
      · exact Or.inl q2
      · have hbs : b < w.heap.size := blk_lt (o := 0) (by rw [h1, len_row]; omega)
        exact Or.inr ⟨b, xs, h0, by rw [blk_alloc, hz, if_neg (by omega), blk_setCell, if_neg h7, h1], h2, h3, h4, h0c, h5, h6, h7⟩
    · exact ((Hold.refl _ _).setCell (p := ⟨_, _, _⟩) hbl _).alloc _)
  go_enter Try.func6, Try.ntmps6
  go_wp2_with fail
  go_region_held3 (fun W => W.cell? ⟨lb, 0, none⟩ = some (.slice a n c) ∧ W.cell? ⟨w.heap.size, 1, none⟩ = some (.int .i64 d.fl) ∧ AIn2 w P lb a n c S d (cnt + 1) W)
    (first | exact (unhide HA).cells | exact (unhide HA).drew.cells | (go_split_ands; exact (AIn2.below (by assumption) (by assumption)).cells))
    ((go_at_call 14; (have hR : ∀ W, AIn2 w P lb a n c S d (cnt + 1) W → Calls Try.prog 14 #[.slice a n c, .int .i64 d.fl, .func (.func 15) #[] #[]] W fun e w' => BsPost S d.fl W e w' := (fun W hW => by
        obtain ⟨b, r1, r2, r3⟩ := hW.2.2.1.reads (Nat.lt_of_le_of_lt (Nat.zero_le _) (blk_lt (o := 0) (by rw [hW.1]; simp)))
        exact bsearch_any a b n c S d.fl W hW.2.2.1.1 (by omega) r2 r1 r3 hp hs f0 f1)); go_split_ands; refine (hR _ (by assumption)).mono ?_; rintro e w2 ⟨i, f, rfl, hL, hB2⟩))
  go_split_ands
  rename_i hA2
  clear hR HA
  clear hB2
  have Hlb := hide hlb
  clear hlb
  have s0 : S.length = n := (unhide hS).1
  have hL0 := hL.1
  have HL := hide hL
  clear hL g0 g1 g2 g3
  obtain ⟨k0, k1, k2, k3, k4, k5⟩ := hA2.more
  have HA2 := hide hA2
  clear hA2
  by_cases hi : i = 50
  · have hi' : (i : Int) = 50 := by omega
    go_wp2_with fail
    first | go_end0 | refine bodyPost_ret (results_none rfl _ _ _) rfl ?_
    obtain ⟨q1, q2, q3, q4, q5, q6⟩ := unhide HA2
    refine ⟨rfl, a, n, c, q1, ?_, q4⟩
    have e : (insD d S).take 50 = S := by
      rw [← insD_of_lb S d i (unhide HL), hi, List.append_assoc, List.take_append, List.take_of_length_le (i := 50) (by simp; omega), List.take_of_length_le (i := 50) (l := S) (by omega)]
      simp; omega
    rw [e]; exact q3
  · have hi' : ¬ (i : Int) = 50 := by omega
    by_cases hn5 : n = 50
    · have hn5' : (n : Int) = 50 := by omega
      obtain ⟨pT, pm⟩ := ins_take S d i 49 (unhide HL) hi (by omega) (by omega)
      have HT := hide pT
      clear pT
      have hc49 : 50 ≤ c := by
        rcases (unhide hS).2 with ⟨_, h, _⟩ | ⟨b, xs, h0, h1, h2, h3, h4, h0c, h5, h6, h7⟩ <;> omega
      have hc49' : (50 : Int) ≤ c := by omega
      obtain ⟨b0, eb⟩ : ∃ b0, a = some ⟨b0, 0, none⟩ := by
        rcases (unhide hS).2 with ⟨_, h, _⟩ | ⟨b, xs, h0, _⟩
        · omega
        · exact ⟨b, h0⟩
      have HA3 : Hid (AIn2 w P lb a 49 c (S.take 49) d (cnt + 1) (w2.setCell ⟨lb, 0, none⟩ (.slice a 49 c))) := hide (by
        obtain ⟨q1, q2, q3, q4, q5, q6⟩ := unhide HA2
        refine ⟨by rw [blk_setCell, if_pos rfl, q1]; rfl, by rw [blk_setCell, if_neg hne]; exact q2, ?_, q4.setCell (p := ⟨_, _, _⟩) hbl _, q5, q6⟩
        obtain ⟨z1, z2⟩ := q3.shorter 49 (by omega) (by omega)
        refine ⟨z1, ?_⟩
        rcases z2 with z2 | ⟨b, xs, h0, h1, h2, h3, h4, h0c, h5, h6, h7⟩
        · exact Or.inl z2
        · exact Or.inr ⟨b, xs, h0, by rw [blk_setCell, if_neg h7, h1], h2, h3, h4, h0c, h5, h6, h7⟩)
      subst eb
      have hz : (w2.setCell ⟨lb, 0, none⟩ (.slice (some ⟨b0, 0, none⟩) 49 c)).heap.size = w2.heap.size := by simp [World.setCell]
      have Hz := hide hz
      clear hz
      have hsz : lb < w2.heap.size := blk_lt (o := 0) (by rw [(unhide HA2).1]; simp)
      have hsz' : ¬ lb = w2.heap.size := by omega
      have t2 : ((w2.setCell ⟨lb, 0, none⟩ (.slice (some ⟨b0, 0, none⟩) 49 c)).alloc (.cells #[.int .i64 d.line, .int .i64 d.fl, .string d.text, .bool d.warn] 28)).cell? ⟨lb, 0, none⟩ = some (.slice (some ⟨b0, 0, none⟩) 49 c) := by
        have q := (unhide HA3).1
        have q2 : blkOf ((w2.setCell ⟨lb, 0, none⟩ (.slice (some ⟨b0, 0, none⟩) 49 c)).alloc (.cells #[.int .i64 d.line, .int .i64 d.fl, .string d.text, .bool d.warn] 28)) lb = _ := (blk_alloc _ _ _ _).trans ((if_neg (by rw [unhide Hz]; exact hsz')).trans q)
        rw [blk_cell (by rw [q2]; simp), q2]; rfl
      go_wp2_with fail
      go_region_with (go_at_call 16; refine (insert_inv2 (unhide hPw) (unhide HA3) (((Below.refl _ _).alloc (Nat.le_refl _) _).drew) (Nat.le_of_eq (unhide Hz)) (by rw [blk_drew, blk_alloc, if_pos (unhide Hz).symm]; rfl) (by omega) pm).mono ?_; rintro e w3 ⟨b', cap, rfl, p1, p2, p3⟩; (have t0 : w3.cell? ⟨lb, 0, none⟩ = some (.slice (some ⟨b0, 0, none⟩) 49 c) := by rw [blk_cell (by rw [p1]; simp), p1]; rfl); (have t1 : w3.frozen? ⟨lb, 0, none⟩ = false := blk_frozen (by rw [p1]; simp)); (have P1 := hide p1); (have P2 := hide p2); (have P3 := hide p3); clear p1 p2 p3)
      all_goals (go_wp2_with fail)
      all_goals (first | go_end0 | refine bodyPost_ret (results_none rfl _ _ _) rfl ?_)
      all_goals exact add_end2 (unhide P1) (unhide P2) (unhide P3) (unhide HT) hbl
    · have hn5' : ¬ (n : Int) = 50 := by omega
      obtain ⟨pT, pm⟩ := ins_take S d i n (unhide HL) hi (by omega) (by rw [Nat.min_eq_left] <;> omega)
      rw [List.take_of_length_le (i := n) (l := S) (by omega)] at pT
      have HT := hide pT
      clear pT
      have Hne := hide hne
      have hsz : lb < w2.heap.size := blk_lt (o := 0) (by rw [(unhide HA2).1]; simp)
      go_wp2_with fail
      go_region_with (go_at_call 16; refine (insert_inv2 (unhide hPw) (unhide HA2) (((Below.refl _ _).alloc (Nat.le_refl _) _).drew) (Nat.le_refl _) (by rw [blk_drew, blk_alloc, if_pos rfl]; rfl) hn pm).mono ?_; rintro e w3 ⟨b', cap, rfl, p1, p2, p3⟩; (have t0 : w3.cell? ⟨lb, 0, none⟩ = some (.slice a n c) := by rw [blk_cell (by rw [p1]; simp), p1]; rfl); (have t1 : w3.frozen? ⟨lb, 0, none⟩ = false := blk_frozen (by rw [p1]; simp)); (have P1 := hide p1); (have P2 := hide p2); (have P3 := hide p3); clear p1 p2 p3)
      all_goals (go_wp2_with fail)
      all_goals (first | go_end0 | refine bodyPost_ret (results_none rfl _ _ _) rfl ?_)
      all_goals exact add_end2 (unhide P1) (unhide P2) (unhide P3) (unhide HT) hbl
end Go.Proofs.Qxb6002619a
