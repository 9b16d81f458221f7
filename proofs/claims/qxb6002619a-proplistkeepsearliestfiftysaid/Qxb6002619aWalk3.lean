/- PropListKeepsEarliestFifty: the walk -/
import Derived.Test.Qxb6002619aSwap
namespace Go.Proofs.Qxb6002619a
open Go.ChangeShapes Go.WideShapes Go.ChangeAt Go.RowKit
set_option linter.unusedVariables false
set_option linter.unusedSimpArgs false

/-- the list behind k additions -/
def LInv (w : World) (lb : Nat) (f : Nat → Dg) (k : Nat) (W : World) : Prop :=
  ∃ a' m c', blkOf W lb = [.slice a' m c', .int .i64 (k : Int)] ∧ ShAt W w.heap.size lb a' m c' ((Gk f k).take 50) ∧ Below w.heap.size w W ∧ w.heap.size ≤ lb
theorem LInv.start {w w1 : World} {f : Nat → Dg} (h : Below w.heap.size w w1) : LInv w w1.heap.size f 0 (w1.alloc (.cells #[.slice none 0 0, .int .i64 0] 25)) :=
  ⟨none, 0, 0, by rw [blk_alloc, if_pos rfl]; rfl, ⟨rfl, Or.inl ⟨rfl, rfl, rfl⟩⟩, h.alloc h.size _, h.size⟩
theorem LInv.add {w : World} {lb n : Nat} {f : Nat → Dg} {k : Nat} {W : World} (h : LInv w lb f k W) (hk : k < n) (hn : n ≤ 4096) (hP : PosD n f) (hD : DistD n f) :
    Calls Try.prog 6 #[.pointer (some ⟨lb, 0, none⟩), .agg #[.int .i64 (f k).line, .int .i64 (f k).fl, .string (f k).text, .bool (f k).warn]] W fun e w' => e = .returned (.tuple #[]) ∧ LInv w lb f (k + 1) w' := by
  obtain ⟨a', m, c', h1, h2, h3, h4⟩ := h
  have hm : m ≤ 50 := by have := h2.1; simp at this; omega
  refine (add_any w.heap.size lb m c' a' ((Gk f k).take 50) (f k) k W h1 (hide h2) h4 hm (hide (Pos_Gk f n k hP (by omega))) (hide (Asc_of (asc_take (asc_Gk f n hD k (by omega)) 50))) (hP k hk).1 (hP k hk).2 (by omega) (by omega)).mono ?_
  rintro e w' ⟨rfl, a2, n2, c2, q1, q2, q3⟩
  refine ⟨rfl, a2, n2, c2, by rw [q1]; simp, ?_, h3.trans q3, h4⟩
  rw [← take_Gk]; exact q2
/-- what the law's tail reads -/
structure Tail (w W : World) (lb cb n q m : Nat) (a' : Option Addr) (c' : Nat) (g : Nat → Dg) (b' : Nat) : Prop where
  cell : blkOf W lb = [.slice a' m c', .int .i64 (n : Int)]
  mq : m = q
  at1 : 0 < q → a' = some ⟨b', 0, none⟩
  lt1 : b' < W.heap.size
  lt2 : 0 < q → cb < W.heap.size
  rd1 : ∀ i, i < q → DAt W b' 0 i (g i)
  rd2 : ∀ i, i < q → DAt W cb 0 i (g i)
  asc : ∀ i, 0 < i → i < q → (g (i - 1)).fl < (g i).fl
  bel : Below w.heap.size w W
theorem tail_of {w w1 w3 w4 : World} {lb n q : Nat} {f : Nat → Dg} (h : LInv w lb f n w1) (h3 : Below w1.heap.size w1 w3) (h4 : Kept w1.heap.size w3 w4) (h5 : 0 < n → blkOf w4 w1.heap.size = row (Gk f n)) (hD : DistD n f) (hq : q = min n 50) :
    ∃ m a' c' g b', Tail w w4 lb w1.heap.size n q m a' c' g b' := by
  obtain ⟨a', m, c', q1, q2, q3, q4⟩ := h
  have B : Below w1.heap.size w1 w4 := h3.trans (h4.below (Nat.le_refl _) h3.size)
  have s := q2.below B
  have l1 : lb < w1.heap.size := blk_lt (o := 0) (by rw [q1]; simp)
  obtain ⟨b', r1, r2, r3⟩ := s.reads (Nat.lt_of_lt_of_le (Nat.lt_of_le_of_lt (Nat.zero_le _) l1) B.size)
  have hm : m = q := by have := s.1; simp [len_Gk] at this; omega
  have eg : ∀ i, i < q → (Gk f n).getD i zD = ((Gk f n).take 50).getD i zD := fun i hi => by
    rw [List.getD_eq_getElem?_getD, List.getD_eq_getElem?_getD, List.getElem?_take, if_pos (by omega)]
  refine ⟨m, a', c', fun i => ((Gk f n).take 50).getD i zD, b', ⟨by rw [blk_below B l1]; exact q1, hm, fun h => unhide r2 (by omega), r1, fun h => ?_, fun i hi => unhide r3 i (by omega), fun i hi => ?_, fun i h0 hi => ?_, q3.trans (B.mono q3.size)⟩⟩
  · exact blk_lt (o := 0) (by rw [h5 (by omega), len_row, len_Gk]; omega)
  · have := DAt_row (h5 (by omega)) i (by rw [len_Gk]; omega)
    rwa [eg i hi] at this
  · exact Asc_of (asc_take (asc_Gk f n hD n (Nat.le_refl _)) 50) (i - 1) i (by omega) (by simp [len_Gk]; omega)
theorem dat_drewN {W : World} {b o i n : Nat} {d : Dg} (h : DAt W b o i d) : DAt (W.drewN n) b o i d := h

set_option maxRecDepth 100000 in
set_option maxHeartbeats 3200000 in
theorem law_any (a : Option Addr) (b o n c : Nat) (f : Nat → Dg) (w : World) (hnm : n ≤ 9223372036854775807) (ha : Hid (0 < n → a = some ⟨b, o, none⟩)) (hz : Hid (a = none → n = 0 ∧ c = 0)) (hd : Hid (∀ i, i < n → DAt w b o i (f i))) (hb : Hid (0 < n → b < w.heap.size)) (hfl : Hid (∀ i, i < n → (f i).fl ≤ 9223372036854775807)) :
    Calls Try.prog 3 #[.slice a n c] w fun e w' => e = .returned (.bool true) ∧ Below w.heap.size w w' := by
  have hnm' : (n : Int) ≤ 9223372036854775807 := by omega
  by_cases hn : 4096 < n
  · have hn' : (4096 : Int) < (n : Int) := by omega
    go_enter Try.func3, Try.ntmps3
    go_wp2_with fail
    go_ret
    exact ⟨rfl, Below.refl _ _⟩
  · have hn2 : n ≤ 4096 := by omega
    have hn' : (n : Int) ≤ 4096 := by omega
    clear hn hnm hnm'
    have C5 := hide (distinct_any a b o n c f w hn2 ha hd hb)
    go_enter Try.func3, Try.ntmps3
    go_wp2_with fail
    refine (unhide C5).mono ?_
    rintro e w1 ⟨r, rfl, hr, B1⟩
    have HB1 := hide B1
    clear B1 C5
    cases r with
    | false =>
      clear hr
      go_wp2_with fail
      go_ret
      exact ⟨rfl, unhide HB1⟩
    | true =>
      have HP : Hid (PosD n f) := hide (fun i hi => ⟨(hr rfl).1 i hi, unhide hfl i hi⟩)
      have HD : Hid (DistD n f) := hide (hr rfl).2
      clear hr
      have HL0 := hide (LInv.start (f := f) (unhide HB1))
      have hlb : w.heap.size ≤ w1.heap.size := (unhide HB1).size
      go_wp2_with fail
      generalize w1.heap.size = lb at *
      go_loopw [4] (fun i wr => ∃ k : Nat, k ≤ n ∧ i = .int .i64 k ∧ Hid (LInv w lb f k wr)) (fun i _ => n - (intOf i).toNat)
      case atStart => exact ⟨0, Nat.zero_le _, rfl, HL0⟩
      case round =>
        obtain ⟨k, hk, rfl, HI⟩ := hrel
        have HBr : Hid (Below w.heap.size w wr) := by
          obtain ⟨_, _, _, _, _, h, _⟩ := unhide HI
          exact hide h
        by_cases hlt : k < n
        · have hlt' : (k : Int) < (n : Int) := by omega
          have ea := unhide ha (by omega)
          subst ea
          obtain ⟨d1, d2, d3, d4⟩ := (unhide hd k hlt).below (unhide HBr) (unhide hb (by omega))
          have C6 := hide ((unhide HI).add hlt hn2 (unhide HP) (unhide HD))
          go_wp2_with fail
          refine (unhide C6).mono ?_
          rintro e w2 ⟨rfl, h2⟩
          have H2 := hide h2
          clear h2
          go_wp2_with fail
          go_roundw
          case rel => exact ⟨k + 1, by omega, by go_num, H2⟩
          case measure => simp [intOf]; omega
        · have ek : k = n := by omega
          subst ek
          have C7 : Hid (Calls Try.prog 7 #[.pointer (some ⟨lb, 0, none⟩)] wr fun e w' => e = .returned (.int .i64 (k : Int)) ∧ w' = wr) := by
            obtain ⟨a', m, c', h1, _⟩ := unhide HI
            exact hide (len_any lb _ _ _ h1)
          have C8 := hide (clone_any a b o k c f wr hn2 ha hz (hide fun i hi => (unhide hd i hi).below (unhide HBr) (unhide hb (by omega))) (hide fun h => Nat.lt_of_lt_of_le (unhide hb h) (unhide HBr).size))
          go_wp2_with fail
          refine (unhide C7).mono ?_
          rintro e w2 ⟨rfl, rfl⟩
          go_wp2_with fail
          refine (unhide C8).mono ?_
          rintro e w3 ⟨a2, rfl, h3, B3⟩
          have H3 := hide h3
          have HB3 := hide B3
          clear h3 B3
          have C9 := hide (sort_any a2 w2.heap.size k f w3 hn2 (hide fun h => (unhide H3 h).1) (hide fun h => (unhide H3 h).2) HD)
          go_wp2_with fail
          refine (unhide C9).mono ?_
          rintro e w4 ⟨rfl, h4, K4⟩
          have H4 := hide h4
          have HK4 := hide K4
          clear h4 K4
          obtain ⟨q, hq⟩ : ∃ q, q = min k 50 := ⟨_, rfl⟩
          obtain ⟨m, a', c', g, b', T⟩ := tail_of (unhide HI) (unhide HB3) (unhide HK4) (unhide H4) (unhide HD) hq
          have HA2 : Hid (0 < q → a2 = some ⟨w2.heap.size, 0, none⟩) := hide (fun h => (unhide H3 (by omega)).1)
          have e0 := T.mq
          subst e0
          have HT := hide T
          clear T
          have C10 := hide (shown_any lb a' m c' _ w4 (unhide HT).cell)
          generalize w2.heap.size = cb at *
          clear HI HB3 HK4 H4 H3 C9 C8 C7 HP HD ha hz hd hb hfl HL0 HBr
          have hm50 : m ≤ 50 := by omega
          have hm50' : (m : Int) ≤ 50 := by omega
          have C11 : Hid (∀ (c2 : Nat) W, Below w4.heap.size w4 W → Calls Try.prog 11 #[.slice a' m c', .slice a2 m c2] W fun e w' => e = .returned (.bool true) ∧ Below W.heap.size W w') :=
            hide (fun c2 W hW => same_any a' a2 b' 0 cb 0 m c' c2 g W (by omega) (hide (unhide HT).at1) HA2 (hide fun i hi => ((unhide HT).rd1 i hi).below hW (unhide HT).lt1) (hide fun i hi => ((unhide HT).rd2 i hi).below hW ((unhide HT).lt2 (by omega))) (hide fun h => ⟨Nat.lt_of_lt_of_le (unhide HT).lt1 hW.size, Nat.lt_of_lt_of_le ((unhide HT).lt2 h) hW.size⟩))
          by_cases hk0 : 0 < k
          · have ea2 := unhide HA2 (by omega)
            subst ea2
            by_cases h50 : 50 < k
            · have h50' : (50 : Int) < (k : Int) := by omega
              have em : m = 50 := by omega
              clear hq
              subst em
              go_wp2_with fail
              refine (unhide C10).mono ?_
              rintro e w5 ⟨rfl, rfl⟩
              go_wp2_with fail
              go_loopw [8] (fun i wr => ∃ j : Nat, 0 < j ∧ i = .int .i64 j ∧ j ≤ 64 ∧ Hid (Below w5.heap.size w5 wr)) (fun i _ => 64 - (intOf i).toNat)
              case atStart => exact ⟨1, by omega, rfl, by omega, hide (Below.refl _ _)⟩
              case round =>
                obtain ⟨j, hj0, rfl, hj64, HW⟩ := hrel
                by_cases hjm : j < 50
                · have ea := (unhide HT).at1 (by omega)
                  subst ea
                  have hjm' : (j : Int) < 50 := by omega
                  obtain ⟨_, d2, _⟩ := ((unhide HT).rd1 j hjm).below (unhide HW) (unhide HT).lt1
                  obtain ⟨_, e2, _⟩ := ((unhide HT).rd1 (j - 1) (by omega)).below (unhide HW) (unhide HT).lt1
                  have hasc := (unhide HT).asc j hj0 hjm
                  simp only [Nat.zero_add] at d2 e2
                  have y1 : (j : Int) - 1 = ((j - 1 : Nat) : Int) := by omega
                  have y2 : j - 1 < 50 := by omega
                  have y3 : ((j - 1 : Nat) : Int) < 50 := by omega
                  generalize j - 1 = p at *
                  have hdec : ¬ (g j).fl ≤ (g p).fl := by omega
                  go_wp2_with fail
                  go_quiet (fail)
                  go_wp2_with fail
                  go_roundw
                  case rel => exact ⟨j + 1, by omega, by go_num, by omega, hide (below_drewN (unhide HW) _)⟩
                  case measure => simp [intOf]; omega
                · have hjm' : 50 ≤ (j : Int) := by omega
                  have C12 := hide (unhide C11 k wr (unhide HW))
                  go_wp2_with fail
                  refine (unhide C12).mono ?_
                  rintro e w6 ⟨rfl, B6⟩
                  go_wp2_with fail
                  go_ret
                  exact ⟨rfl, ((unhide HT).bel.trans ((unhide HW).mono (unhide HT).bel.size)).trans (B6.mono (Nat.le_trans (unhide HT).bel.size (unhide HW).size))⟩
              
            · have h50' : (k : Int) ≤ 50 := by omega
              have em : k = m := by omega
              clear hq
              subst em
              go_wp2_with fail
              refine (unhide C10).mono ?_
              rintro e w5 ⟨rfl, rfl⟩
              go_wp2_with fail
              go_loopw [8] (fun i wr => ∃ j : Nat, 0 < j ∧ i = .int .i64 j ∧ j ≤ 64 ∧ Hid (Below w5.heap.size w5 wr)) (fun i _ => 64 - (intOf i).toNat)
              case atStart => exact ⟨1, by omega, rfl, by omega, hide (Below.refl _ _)⟩
              case round =>
                obtain ⟨j, hj0, rfl, hj64, HW⟩ := hrel
                by_cases hjm : j < k
                · have ea := (unhide HT).at1 (by omega)
                  subst ea
                  have hjm' : (j : Int) < (k : Int) := by omega
                  obtain ⟨_, d2, _⟩ := ((unhide HT).rd1 j hjm).below (unhide HW) (unhide HT).lt1
                  obtain ⟨_, e2, _⟩ := ((unhide HT).rd1 (j - 1) (by omega)).below (unhide HW) (unhide HT).lt1
                  have hasc := (unhide HT).asc j hj0 hjm
                  simp only [Nat.zero_add] at d2 e2
                  have y1 : (j : Int) - 1 = ((j - 1 : Nat) : Int) := by omega
                  have y2 : j - 1 < k := by omega
                  have y3 : ((j - 1 : Nat) : Int) < (k : Int) := by omega
                  generalize j - 1 = p at *
                  have hdec : ¬ (g j).fl ≤ (g p).fl := by omega
                  go_wp2_with fail
                  go_quiet (fail)
                  go_wp2_with fail
                  go_roundw
                  case rel => exact ⟨j + 1, by omega, by go_num, by omega, hide (below_drewN (unhide HW) _)⟩
                  case measure => simp [intOf]; omega
                · have hjm' : (k : Int) ≤ (j : Int) := by omega
                  have C12 := hide (unhide C11 k wr (unhide HW))
                  go_wp2_with fail
                  refine (unhide C12).mono ?_
                  rintro e w6 ⟨rfl, B6⟩
                  go_wp2_with fail
                  go_ret
                  exact ⟨rfl, ((unhide HT).bel.trans ((unhide HW).mono (unhide HT).bel.size)).trans (B6.mono (Nat.le_trans (unhide HT).bel.size (unhide HW).size))⟩
              
          · have em : m = 0 := by omega
            have ek : k = 0 := by omega
            clear hq
            subst em
            subst ek
            cases a2 with
            | none =>
              go_wp2_with fail
              refine (unhide C10).mono ?_
              rintro e w5 ⟨rfl, rfl⟩
              go_wp2_with fail
              go_loopw [8] (fun i wr => ∃ j : Nat, 0 < j ∧ i = .int .i64 j ∧ j ≤ 64 ∧ Hid (Below w5.heap.size w5 wr)) (fun i _ => 64 - (intOf i).toNat)
              case atStart => exact ⟨1, by omega, rfl, by omega, hide (Below.refl _ _)⟩
              case round =>
                obtain ⟨j, hj0, rfl, hj64, HW⟩ := hrel
                have hjm' : 0 ≤ (j : Int) := by omega
                have C12 := hide (unhide C11 0 wr (unhide HW))
                go_wp2_with fail
                refine (unhide C12).mono ?_
                rintro e w6 ⟨rfl, B6⟩
                go_wp2_with fail
                go_ret
                exact ⟨rfl, ((unhide HT).bel.trans ((unhide HW).mono (unhide HT).bel.size)).trans (B6.mono (Nat.le_trans (unhide HT).bel.size (unhide HW).size))⟩
              
            | some y =>
              go_wp2_with fail
              refine (unhide C10).mono ?_
              rintro e w5 ⟨rfl, rfl⟩
              go_wp2_with fail
              go_loopw [8] (fun i wr => ∃ j : Nat, 0 < j ∧ i = .int .i64 j ∧ j ≤ 64 ∧ Hid (Below w5.heap.size w5 wr)) (fun i _ => 64 - (intOf i).toNat)
              case atStart => exact ⟨1, by omega, rfl, by omega, hide (Below.refl _ _)⟩
              case round =>
                obtain ⟨j, hj0, rfl, hj64, HW⟩ := hrel
                have hjm' : 0 ≤ (j : Int) := by omega
                have C12 := hide (unhide C11 0 wr (unhide HW))
                go_wp2_with fail
                refine (unhide C12).mono ?_
                rintro e w6 ⟨rfl, B6⟩
                go_wp2_with fail
                go_ret
                exact ⟨rfl, ((unhide HT).bel.trans ((unhide HW).mono (unhide HT).bel.size)).trans (B6.mono (Nat.le_trans (unhide HT).bel.size (unhide HW).size))⟩
              
end Go.Proofs.Qxb6002619a
