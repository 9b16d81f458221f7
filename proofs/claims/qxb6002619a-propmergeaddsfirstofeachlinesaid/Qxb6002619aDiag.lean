/- diagnostics as data; rows of them in memory -/
import Derived.Test.Qxb6002619aBlk
namespace Go.Proofs.Qxb6002619a
open Go.ChangeShapes Go.WideShapes Go.ChangeAt Go.RowKit
set_option linter.unusedVariables false
set_option linter.unusedSimpArgs false

structure Dg where
  line : Int
  fl : Int
  text : ByteArray
  warn : Bool
def zD : Dg := ⟨0, 0, ByteArray.empty, false⟩
def c4 (d : Dg) : List Value := [.int .i64 d.line, .int .i64 d.fl, .string d.text, .bool d.warn]
def row : List Dg → List Value
  | [] => []
  | d :: r => .int .i64 d.line :: .int .i64 d.fl :: .string d.text :: .bool d.warn :: row r
theorem row_cons (d : Dg) (r : List Dg) : row (d :: r) = c4 d ++ row r := rfl
theorem row_one (d : Dg) : row [d] = c4 d := rfl
theorem len_row : ∀ ds : List Dg, (row ds).length = ds.length * 4
  | [] => rfl
  | d :: r => by simp only [row, List.length_cons, len_row r]; omega
theorem row_append : ∀ a b : List Dg, row (a ++ b) = row a ++ row b
  | [], b => rfl
  | d :: r, b => by rw [List.cons_append]; simp only [row, List.cons_append]; rw [row_append r b]
theorem row_take : ∀ (ds : List Dg) (n : Nat), (row ds).take (n * 4) = row (ds.take n)
  | ds, 0 => by simp [row]
  | [], n + 1 => by simp [row]
  | d :: r, n + 1 => by
    rw [show (n + 1) * 4 = n * 4 + 4 from by omega]
    simp only [row, List.take_succ_cons]
    rw [row_take r n]
theorem row_drop : ∀ (ds : List Dg) (n : Nat), (row ds).drop (n * 4) = row (ds.drop n)
  | ds, 0 => by simp
  | [], n + 1 => by simp [row]
  | d :: r, n + 1 => by
    rw [show (n + 1) * 4 = n * 4 + 4 from by omega]
    simp only [row, List.drop_succ_cons]
    rw [row_drop r n]
theorem one_row : ∀ ds : List Dg, ∀ v ∈ row ds, v.oneCell' = true
  | [], v, h => by cases h
  | d :: r, v, h => by
    simp only [row, List.mem_cons] at h
    rcases h with rfl | rfl | rfl | rfl | h
    · rfl
    · rfl
    · rfl
    · rfl
    · exact one_row r v h
theorem over_split : ∀ (vs M A B : List Value), M.length = vs.length → over (A ++ M ++ B) A.length vs = A ++ vs ++ B
  | [], M, A, B, h => by
    have : M = [] := List.length_eq_zero_iff.1 h
    subst this
    simp [over]
  | v :: r, M, A, B, h => by
    match M, h with
    | m :: M', h =>
      show over ((A ++ (m :: M') ++ B).set A.length v) (A.length + 1) r = _
      have e : (A ++ (m :: M') ++ B).set A.length v = (A ++ [v]) ++ M' ++ B := by
        rw [List.append_assoc, List.set_append_right _ _ (Nat.le_refl _), Nat.sub_self]
        simp
      rw [e, show A.length + 1 = (A ++ [v]).length by simp, over_split r M' (A ++ [v]) B (by simpa using h)]
      simp
theorem over_eq (vs C : List Value) (o : Nat) (h : o + vs.length ≤ C.length) : over C o vs = C.take o ++ vs ++ C.drop (o + vs.length) := by
  have e : C = C.take o ++ (C.drop o).take vs.length ++ C.drop (o + vs.length) := by
    rw [List.append_assoc, ← List.drop_drop, List.take_append_drop, List.take_append_drop]
  have hl : (C.take o).length = o := by simp; omega
  have := over_split vs ((C.drop o).take vs.length) (C.take o) (C.drop (o + vs.length)) (by simp; omega)
  rw [← e, hl] at this
  exact this
theorem over_row (xs ys : List Dg) (i : Nat) (h : i + ys.length ≤ xs.length) : over (row xs) (i * 4) (row ys) = row (xs.take i ++ ys ++ xs.drop (i + ys.length)) := by
  rw [over_eq _ _ _ (by rw [len_row, len_row]; omega), row_append, row_append, row_take, len_row, show i * 4 + ys.length * 4 = (i + ys.length) * 4 by omega, row_drop]
theorem cut_row (xs : List Dg) (i n : Nat) : cut (row xs) (i * 4) (n * 4) = row ((xs.drop i).take n) := by
  unfold cut
  rw [row_drop, row_take]
theorem get_row : ∀ (xs : List Dg) (i : Nat), i < xs.length → (row xs)[i * 4]? = some (.int .i64 (xs.getD i zD).line) ∧ (row xs)[i * 4 + 1]? = some (.int .i64 (xs.getD i zD).fl) ∧ (row xs)[i * 4 + 2]? = some (.string (xs.getD i zD).text) ∧ (row xs)[i * 4 + 3]? = some (.bool (xs.getD i zD).warn)
  | [], i, h => absurd h (Nat.not_lt_zero i)
  | d :: r, 0, h => ⟨rfl, rfl, rfl, rfl⟩
  | d :: r, i + 1, h => by
    have := get_row r i (by simpa using h)
    rw [show (i + 1) * 4 = i * 4 + 4 by omega]
    simpa [row] using this
/-- the four cells of the i-th diagnostic of a row in block b from cell o on -/
def DAt (W : World) (b o i : Nat) (d : Dg) : Prop :=
  W.cell? ⟨b, o + i * 4, none⟩ = some (.int .i64 d.line) ∧ W.cell? ⟨b, o + i * 4 + 1, none⟩ = some (.int .i64 d.fl) ∧ W.cell? ⟨b, o + i * 4 + 2, none⟩ = some (.string d.text) ∧ W.cell? ⟨b, o + i * 4 + 3, none⟩ = some (.bool d.warn)
theorem DAt_row {W : World} {b : Nat} {xs : List Dg} (h : blkOf W b = row xs) (i : Nat) (hi : i < xs.length) : DAt W b 0 i (xs.getD i zD) := by
  obtain ⟨h1, h2, h3, h4⟩ := get_row xs i hi
  have hl : (blkOf W b).length = xs.length * 4 := by rw [h, len_row]
  refine ⟨?_, ?_, ?_, ?_⟩
  · rw [Nat.zero_add, blk_cell (by omega), h]; simp [at_, h1]
  · rw [Nat.zero_add, blk_cell (by omega), h]; simp [at_, h2]
  · rw [Nat.zero_add, blk_cell (by omega), h]; simp [at_, h3]
  · rw [Nat.zero_add, blk_cell (by omega), h]; simp [at_, h4]
theorem DAt.below {B : Nat} {W W' : World} {b o i : Nat} {d : Dg} (h : DAt W b o i d) (hb : Below B W W') (hl : b < B) : DAt W' b o i d := by
  obtain ⟨h1, h2, h3, h4⟩ := h
  exact ⟨by rw [hb.cell (p := ⟨_, _, _⟩) hl]; exact h1, by rw [hb.cell (p := ⟨_, _, _⟩) hl]; exact h2, by rw [hb.cell (p := ⟨_, _, _⟩) hl]; exact h3, by rw [hb.cell (p := ⟨_, _, _⟩) hl]; exact h4⟩

set_option maxHeartbeats 400000 in
/-- the comparison in Add -/
theorem cmp_any (d : Dg) (t : Int) (w : World) (h0 : 0 < d.fl) (h1 : d.fl ≤ 9223372036854775807) (h2 : 0 < t) (h3 : t ≤ 9223372036854775807) :
    Calls Try.prog 15 #[.agg #[.int .i64 d.line, .int .i64 d.fl, .string d.text, .bool d.warn], .int .i64 t] w fun e w' => e = .returned (.int .i64 (d.fl - t)) ∧ Below w.heap.size w w' := by
  go_enter Try.func15, Try.ntmps15
  go_wp2
  go_ret
  exact ⟨rfl, (Below.refl _ _).alloc (Nat.le_refl _) _⟩

/-- how many diagnostics of a sorted list stand before file line t -/
def Pos (S : List Dg) : Prop := ∀ i, i < S.length → 0 < (S.getD i zD).fl ∧ (S.getD i zD).fl ≤ 9223372036854775807
def Asc (S : List Dg) : Prop := ∀ i j, i < j → j < S.length → (S.getD i zD).fl < (S.getD j zD).fl
def Lb (S : List Dg) (t : Int) (i : Nat) : Prop := i ≤ S.length ∧ (∀ k, k < i → (S.getD k zD).fl < t) ∧ ∀ k, i ≤ k → k < S.length → t ≤ (S.getD k zD).fl

def BsPost (S : List Dg) (t : Int) (w : World) (e : Ending) (w' : World) : Prop := ∃ (i : Nat) (f : Bool), e = .returned (.tuple #[.int .i64 i, .bool f]) ∧ Lb S t i ∧ Below w.heap.size w w'

set_option maxRecDepth 100000 in
set_option maxHeartbeats 1600000 in
theorem bsearch_any (a : Option Addr) (b n c : Nat) (S : List Dg) (t : Int) (w : World) (hn : S.length = n) (hn2 : n ≤ 65536) (ha : Hid (0 < n → a = some ⟨b, 0, none⟩)) (hb : b < w.heap.size) (hd : Hid (∀ i, i < n → DAt w b 0 i (S.getD i zD)))
    (hp : Hid (Pos S)) (hs : Hid (Asc S)) (t0 : 0 < t) (t1 : t ≤ 9223372036854775807) :
    Calls Try.prog 14 #[.slice a n c, .int .i64 t, .func (.func 15) #[] #[]] w fun e w' => BsPost S t w e w' := by
  have hn' : (n : Int) ≤ 65536 := by omega
  go_enter Try.func14, Try.ntmps14
  go_wp2_with fail
  go_loopw [9, 10] (fun i j wr => ∃ p q : Nat, p ≤ q ∧ q ≤ n ∧ i = .int .i64 p ∧ j = .int .i64 q ∧ Hid (∀ k, k < p → (S.getD k zD).fl < t) ∧ Hid (∀ k, q ≤ k → k < n → t ≤ (S.getD k zD).fl) ∧ Hid (Below w.heap.size w wr)) (fun i j _ => (intOf j).toNat - (intOf i).toNat)
  case atStart => exact ⟨0, n, Nat.zero_le _, Nat.le_refl _, rfl, rfl, hide (fun k hk => absurd hk (Nat.not_lt_zero k)), hide (fun k h1 h2 => absurd h1 (by omega)), hide (Below.refl _ _)⟩
  case round =>
    obtain ⟨p, q, hpq, hq, rfl, rfl, H1, H2, HB⟩ := hrel
    by_cases hlt : p < q
    · have ea := unhide ha (by omega)
      subst ea
      have b0 : (0 : Int) ≤ (p : Int) + (q : Int) := by omega
      have b1 : (p : Int) + (q : Int) ≤ 131072 := by omega
      have hlt' : (p : Int) < (q : Int) := by omega
      obtain ⟨d1, d2, d3, d4⟩ := (unhide hd ((p + q) / 2) (by omega)).below (unhide HB) hb
      simp only [Nat.zero_add] at d1 d2 d3 d4
      have hm := unhide hp ((p + q) / 2) (by omega)
      have e1 : ((p : Int) + (q : Int)) / 2 = (((p + q) / 2 : Nat) : Int) := by omega
      have m1 : p ≤ (p + q) / 2 := by omega
      have m2 : (p + q) / 2 < q := by omega
      have hasc := unhide hs
      have HA := hide hasc
      clear hasc
      generalize hmm : (p + q) / 2 = m at *
      have Hmm := hide hmm
      clear hmm
      have C := hide (fun W => cmp_any (S.getD m zD) t W hm.1 hm.2 t0 t1)
      have g1 := hm.1
      have g2 := hm.2
      clear hm
      generalize hx : S.getD m zD = x at *
      have Hx := hide hx
      clear hx
      by_cases hc : x.fl < t
      · have hc' : x.fl - t < 0 := by omega
        go_wp2_with fail
        refine (unhide C _).mono ?_
        rintro e w1 ⟨rfl, B⟩
        have HB1 : Hid (Below w.heap.size w w1) := hide ((unhide HB).trans (B.mono (unhide HB).size))
        clear B
        go_wp2_with fail
        go_roundw
        case rel => exact ⟨m + 1, q, by omega, hq, by go_num, rfl, hide (fun k hk => by
          have hxx := unhide Hx
          by_cases e : k = m
          · subst e; rw [hxx]; exact hc
          · have := unhide HA k m (by omega) (by omega); rw [hxx] at this; omega), H2, HB1⟩
        case measure => simp [intOf]; omega
      · have hc' : ¬ x.fl - t < 0 := by omega
        go_wp2_with fail
        refine (unhide C _).mono ?_
        rintro e w1 ⟨rfl, B⟩
        have HB1 : Hid (Below w.heap.size w w1) := hide ((unhide HB).trans (B.mono (unhide HB).size))
        clear B
        go_wp2_with fail
        go_roundw
        case rel => exact ⟨p, m, by omega, by omega, rfl, by go_num, H1, hide (fun k h1 h2 => by
          have hxx := unhide Hx
          by_cases e : k = m
          · subst e; rw [hxx]; exact hc
          · have := unhide HA m k (by omega) (by omega); rw [hxx] at this; omega), HB1⟩
        case measure => simp [intOf]; omega
    · have hpq' : q = p := by omega
      subst hpq'
      have HL : Hid (Lb S t q) := hide ⟨by omega, unhide H1, fun k h1 h2 => unhide H2 k h1 (by omega)⟩
      by_cases hqn : q < n
      · have ea := unhide ha (by omega)
        subst ea
        have hqn' : (q : Int) < (n : Int) := by omega
        obtain ⟨d1, d2, d3, d4⟩ := (unhide hd q hqn).below (unhide HB) hb
        simp only [Nat.zero_add] at d1 d2 d3 d4
        have hm := unhide hp q (by omega)
        have C := hide (fun W => cmp_any (S.getD q zD) t W hm.1 hm.2 t0 t1)
        clear hm
        generalize S.getD q zD = x at *
        go_wp2_with fail
        refine (unhide C _).mono ?_
        rintro e w1 ⟨rfl, B⟩
        have HB1 : Hid (Below w.heap.size w w1) := hide ((unhide HB).trans (B.mono (unhide HB).size))
        clear B
        go_wp2_with fail
        go_ret2
        exact ⟨q, _, rfl, unhide HL, unhide HB1⟩
      · have hqn' : ¬ (q : Int) < (n : Int) := by omega
        go_wp2_with fail
        go_ret2
        exact ⟨q, _, rfl, unhide HL, unhide HB⟩
end Go.Proofs.Qxb6002619a
