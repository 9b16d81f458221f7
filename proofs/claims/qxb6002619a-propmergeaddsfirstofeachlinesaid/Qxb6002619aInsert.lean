/- slices.insertionSortCmpFunc -/
import Derived.Test.Qxb6002619aStab
import Derived.Deep.RegionWith
namespace Go.Proofs.Qxb6002619a
open Go.ChangeShapes Go.WideShapes Go.ChangeAt Go.RowKit
set_option linter.unusedVariables false
set_option linter.unusedSimpArgs false

set_option maxHeartbeats 400000 in
/-- the comparison in Merge -/
theorem cmp18 (d1 d2 : Dg) (w : World) (h0 : 0 < d1.fl) (h1 : d1.fl ≤ 9223372036854775807) (h2 : 0 < d2.fl) (h3 : d2.fl ≤ 9223372036854775807) :
    Calls Try.prog 18 #[.agg #[.int .i64 d1.line, .int .i64 d1.fl, .string d1.text, .bool d1.warn], .agg #[.int .i64 d2.line, .int .i64 d2.fl, .string d2.text, .bool d2.warn]] w fun e w' => e = .returned (.int .i64 (d1.fl - d2.fl)) ∧ Below w.heap.size w w' := by
  go_enter Try.func18, Try.ntmps18
  go_wp2
  go_ret
  exact ⟨rfl, ((Below.refl _ _).alloc (Nat.le_refl _) _).alloc (by simp) _⟩
/-- two diagnostics that a test reads -/
def QInv (b j m : Nat) (x y : Dg) (wr W : World) : Prop := DAt W b 0 j x ∧ DAt W b 0 m y ∧ Below wr.heap.size wr W ∧ b < wr.heap.size
def QCells (b j m : Nat) (x y : Dg) (wr W : World) : Prop :=
  W.cell? ⟨b, j * 4, none⟩ = some (.int .i64 x.line) ∧ W.cell? ⟨b, j * 4 + 1, none⟩ = some (.int .i64 x.fl) ∧ W.cell? ⟨b, j * 4 + 2, none⟩ = some (.string x.text) ∧ W.cell? ⟨b, j * 4 + 3, none⟩ = some (.bool x.warn) ∧
  W.cell? ⟨b, m * 4, none⟩ = some (.int .i64 y.line) ∧ W.cell? ⟨b, m * 4 + 1, none⟩ = some (.int .i64 y.fl) ∧ W.cell? ⟨b, m * 4 + 2, none⟩ = some (.string y.text) ∧ W.cell? ⟨b, m * 4 + 3, none⟩ = some (.bool y.warn) ∧ QInv b j m x y wr W
theorem QInv.cells {b j m : Nat} {x y : Dg} {wr W : World} (h : QInv b j m x y wr W) : QCells b j m x y wr W := by
  have h' := h
  obtain ⟨⟨d1, d2, d3, d4⟩, ⟨e1, e2, e3, e4⟩, _⟩ := h
  simp only [Nat.zero_add] at d1 d2 d3 d4 e1 e2 e3 e4
  exact ⟨d1, d2, d3, d4, e1, e2, e3, e4, h'⟩
theorem QInv.below {b j m : Nat} {x y : Dg} {wr W W' : World} (h : QInv b j m x y wr W) (hb : Below W.heap.size W W') : QInv b j m x y wr W' := by
  obtain ⟨h1, h2, h3, h4⟩ := h
  have hl : b < W.heap.size := Nat.lt_of_lt_of_le h4 h3.size
  exact ⟨h1.below hb hl, h2.below hb hl, h3.trans (hb.mono h3.size), h4⟩
theorem QInv.drew {b j m : Nat} {x y : Dg} {wr W : World} (h : QInv b j m x y wr W) : QInv b j m x y wr W.drew := h.below (Below.refl _ _).drew
theorem QInv.mk' {b j m n : Nat} {F : Nat → Dg} {wr : World} (h : Mem wr b n F) (hj : j < n) (hm : m < n) : QInv b j m (F j) (F m) wr wr := ⟨h.dat j hj, h.dat m hm, Below.refl _ _, h.lt (by omega)⟩

/-- sorted from x to k but for the element at j, which is still on its way down -/
def SA (F : Nat → Dg) (x j k : Nat) : Prop := (∀ p q, x ≤ p → p < q → q ≤ k → p ≠ j → q ≠ j → (F p).fl ≤ (F q).fl) ∧ ∀ q, j < q → q ≤ k → (F j).fl ≤ (F q).fl
theorem SA.start {F : Nat → Dg} {x k : Nat} (h : Srt F x k) : SA F x k k := ⟨fun p q h1 h2 h3 h4 h5 => h p q h1 h2 (by omega), fun q h1 h2 => by omega⟩
theorem SA.swap {F : Nat → Dg} {x j k : Nat} (h : SA F x j k) (hj : x < j) (hk : j ≤ k) (hlt : (F j).fl < (F (j - 1)).fl) : SA (swp F (j - 1) j) x (j - 1) k := by
  obtain ⟨h1, h2⟩ := h
  constructor
  · intro p q g1 g2 g3 g4 g5
    unfold swp
    rw [if_neg g4, if_neg g5]
    by_cases e1 : p = j
    · rw [if_pos e1, if_neg (by omega)]; exact h1 _ _ (by omega) (by omega) g3 (by omega) (by omega)
    · rw [if_neg e1]
      by_cases e2 : q = j
      · rw [if_pos e2]; exact h1 _ _ g1 (by omega) (by omega) e1 (by omega)
      · rw [if_neg e2]; exact h1 _ _ g1 g2 g3 e1 e2
  · intro q g1 g2
    unfold swp
    rw [if_pos rfl, if_neg (by omega)]
    by_cases e2 : q = j
    · rw [if_pos e2]; exact Int.le_of_lt hlt
    · rw [if_neg e2]; exact h2 q (by omega) g2
theorem SA.stop {F : Nat → Dg} {x j k : Nat} (h : SA F x j k) (hx : x ≤ j) (h0 : j = x ∨ (F (j - 1)).fl ≤ (F j).fl) : Srt F x (k + 1) := by
  obtain ⟨h1, h2⟩ := h
  intro p q g1 g2 g3
  by_cases e1 : p = j
  · subst e1; exact h2 q g2 (by omega)
  · by_cases e2 : q = j
    · subst e2
      rcases h0 with h0 | h0
      · omega
      · by_cases e3 : p = q - 1
        · subst e3; exact h0
        · have := h1 p (q - 1) g1 (by omega) (by omega) e1 (by omega); omega
    · exact h1 p q g1 g2 (by omega) e1 e2
/-- the row sorted between x and y -/
def IsPost (w : World) (b n x y : Nat) (F : Nat → Dg) (e : Ending) (w' : World) : Prop := ∃ F', SPost w b n F' e w' ∧ Mix n F F' x y ∧ Srt F' x y
def InI (w : World) (b n x y : Nat) (F : Nat → Dg) (F1 : Nat → Dg) (wr : World) : Prop := Mem wr b n F1 ∧ Kept b w wr ∧ Mix n F F1 x y

set_option maxRecDepth 100000 in
set_option maxHeartbeats 3200000 in
theorem insertion_any (b n c x y : Nat) (F : Nat → Dg) (w : World) (hn : n ≤ 4096) (hn0 : 0 < n) (hM : Hid (Mem w b n F)) (hxy : x ≤ y) (hy : y ≤ n) (hP : Hid (PosD n F)) :
    Calls Try.prog 25 #[.slice (some ⟨b, 0, none⟩) n c, .int .i64 (x : Int), .int .i64 (y : Int), .func (.func 18) #[] #[]] w fun e w' => IsPost w b n x y F e w' := by
  have hn' : (n : Int) ≤ 4096 := by omega
  have hy' : (y : Int) ≤ 4096 := by omega
  have hx' : (x : Int) ≤ 4096 := by omega
  go_enter Try.func25, Try.ntmps25
  go_wp2_with fail
  go_loopw [8] (fun i wr => ∃ (k : Nat) (F1 : Nat → Dg), x < k ∧ k ≤ y + 1 ∧ i = .int .i64 k ∧ Hid (InI w b n x y F F1 wr) ∧ Hid (Srt F1 x k)) (fun i _ => y + 1 - (intOf i).toNat)
  case atStart => exact ⟨x + 1, F, by omega, by omega, by go_num, hide ⟨unhide hM, Kept.refl _ _, Mix.refl _ _ _ _⟩, hide (fun p q h1 h2 h3 => by omega)⟩
  case round =>
    clear hM
    obtain ⟨k, F1, hk1, hk2, rfl, HI, HS⟩ := hrel
    have k' : (k : Int) ≤ 4097 := by omega
    by_cases hlt : k < y
    · have hlt' : (k : Int) < (y : Int) := by omega
      go_wp2_with fail
      go_loopw [9] (fun i wr => ∃ (j : Nat) (F2 : Nat → Dg), x ≤ j ∧ j ≤ k ∧ i = .int .i64 j ∧ Hid (InI w b n x y F F2 wr) ∧ Hid (SA F2 x j k)) (fun i _ => (intOf i).toNat)
      case atStart => exact ⟨k, F1, by omega, Nat.le_refl _, rfl, HI, hide (SA.start (unhide HS))⟩
      case round =>
        clear HI HS
        obtain ⟨j, F2, hj1, hj2, rfl, HJ, HA⟩ := hrel
        by_cases hjx : x < j
        · have hjx' : (x : Int) < (j : Int) := by omega
          have y1 : (j : Int) - 1 = ((j - 1 : Nat) : Int) := by omega
          have y0 : IntKind.i64.wrap ((j : Int) - 1) = ((j - 1 : Nat) : Int) := by rw [IntKind.wrap_i64]; omega
          have y5 : (0 : Int) ≤ ((j - 1 : Nat) : Int) := by omega
          have y6 : ((j - 1 : Nat) : Int) < (n : Int) := by omega
          have y7 : (j : Int) < (n : Int) := by omega
          have y2 : j - 1 < n := by omega
          have y3 : j < n := by omega
          have HQ := hide (QInv.mk' (unhide HJ).1 y3 y2)
          have hP2 := (unhide HJ).2.2.pos hy (unhide hP)
          have C := hide (fun W => cmp18 (F2 j) (F2 (j - 1)) W (hP2 j y3).1 (hP2 j y3).2 (hP2 (j - 1) y2).1 (hP2 (j - 1) y2).2)
          have p1 := (hP2 j y3).1
          have p2 := (hP2 j y3).2
          have p3 := (hP2 (j - 1) y2).1
          have p4 := (hP2 (j - 1) y2).2
          clear hP2
          have Hy1 := hide y1
          clear y1
          by_cases hc : (F2 j).fl < (F2 (j - 1)).fl
          · have HSA : Hid (SA (swp F2 (j - 1) j) x (j - 1) k) := hide ((unhide HA).swap hjx hj2 hc)
            have HSW : Hid (∀ W, InI w b n x y F F2 W → InI w b n x y F (swp F2 (j - 1) j) (swW W b j (j - 1) (F2 j) (F2 (j - 1)))) := hide (fun W h => by
              refine ⟨?_, h.2.1.swW _ _ _ _, ?_⟩
              · rw [swp_comm F2 (j - 1) j (by omega)]; exact h.1.swap j (j - 1) y3 y2 (by omega)
              · have := mix_swp n F2 (j - 1) (by omega) (by rw [show j - 1 + 1 = j by omega]; omega)
                rw [show j - 1 + 1 = j by omega] at this
                exact h.2.2.trans (this.mono (by omega) (by omega)))
            have Hm : Hid (j - 1 + 1 = j) := hide (by omega)
            have Hq : Hid (x ≤ j - 1) := hide (by omega)
            clear HA
            generalize swp F2 (j - 1) j = F3 at *
            generalize F2 j = u at *
            generalize F2 (j - 1) = v at *
            generalize j - 1 = m at *
            have hc' : u.fl - v.fl < 0 := by omega
            have hdec : decide (u.fl - v.fl < 0) = true := by simp; omega
            go_wp2_with fail
            go_region_held3 (fun W => W.cell? ⟨b, j * 4, none⟩ = some (.int .i64 u.line) ∧ W.cell? ⟨b, j * 4 + 1, none⟩ = some (.int .i64 u.fl) ∧ W.cell? ⟨b, j * 4 + 2, none⟩ = some (.string u.text) ∧ W.cell? ⟨b, j * 4 + 3, none⟩ = some (.bool u.warn) ∧ W.cell? ⟨b, m * 4, none⟩ = some (.int .i64 v.line) ∧ W.cell? ⟨b, m * 4 + 1, none⟩ = some (.int .i64 v.fl) ∧ W.cell? ⟨b, m * 4 + 2, none⟩ = some (.string v.text) ∧ W.cell? ⟨b, m * 4 + 3, none⟩ = some (.bool v.warn) ∧ QInv b j m u v wr W)
              (first | exact (unhide HQ).cells | exact (unhide HQ).drew.cells | (go_split_ands; exact (QInv.below (by assumption) (by assumption)).cells))
              ((go_at_call 18; refine (unhide C _).mono ?_; rintro e w2 ⟨rfl, hB2⟩))
            go_split_ands
            rename_i hQ2
            clear hB2
            have HJ2 : Hid (InI w b n x y F F2 w2) := hide ⟨(unhide HJ).1.below hn0 hQ2.2.2.1, (unhide HJ).2.1.trans (Kept.ofBelow hQ2.2.2.1), (unhide HJ).2.2⟩
            have hf := (unhide HJ2).1.frozen hn0
            have HS3 := hide (unhide HSW w2 (unhide HJ2))
            clear HJ HSW HQ hQ2
            have y1 := unhide Hy1
            clear y0 Hy1
            have g0 := hf (j * 4)
            have g1 := hf (j * 4 + 1)
            have g2 := hf (j * 4 + 2)
            have g3 := hf (j * 4 + 3)
            have g4 := hf (m * 4)
            have g5 := hf (m * 4 + 1)
            have g6 := hf (m * 4 + 2)
            have g7 := hf (m * 4 + 3)
            clear hf
            have hjm1 : ¬ j = m := by have := unhide Hm; omega
            have hjm2 : ¬ m = j := by have := unhide Hm; omega
            have z0 : ¬ j * 4 = m * 4 := by have := unhide Hm; omega
            have z1 : ¬ m * 4 = j * 4 := by have := unhide Hm; omega
            have z2 : ¬ j * 4 = m * 4 + 1 := by have := unhide Hm; omega
            have z3 : ¬ m * 4 + 1 = j * 4 := by have := unhide Hm; omega
            have z4 : ¬ j * 4 = m * 4 + 2 := by have := unhide Hm; omega
            have z5 : ¬ m * 4 + 2 = j * 4 := by have := unhide Hm; omega
            have z6 : ¬ j * 4 = m * 4 + 3 := by have := unhide Hm; omega
            have z7 : ¬ m * 4 + 3 = j * 4 := by have := unhide Hm; omega
            have z8 : ¬ j * 4 + 1 = m * 4 := by have := unhide Hm; omega
            have z9 : ¬ m * 4 = j * 4 + 1 := by have := unhide Hm; omega
            have z10 : ¬ j * 4 + 1 = m * 4 + 1 := by have := unhide Hm; omega
            have z11 : ¬ m * 4 + 1 = j * 4 + 1 := by have := unhide Hm; omega
            have z12 : ¬ j * 4 + 1 = m * 4 + 2 := by have := unhide Hm; omega
            have z13 : ¬ m * 4 + 2 = j * 4 + 1 := by have := unhide Hm; omega
            have z14 : ¬ j * 4 + 1 = m * 4 + 3 := by have := unhide Hm; omega
            have z15 : ¬ m * 4 + 3 = j * 4 + 1 := by have := unhide Hm; omega
            have z16 : ¬ j * 4 + 2 = m * 4 := by have := unhide Hm; omega
            have z17 : ¬ m * 4 = j * 4 + 2 := by have := unhide Hm; omega
            have z18 : ¬ j * 4 + 2 = m * 4 + 1 := by have := unhide Hm; omega
            have z19 : ¬ m * 4 + 1 = j * 4 + 2 := by have := unhide Hm; omega
            have z20 : ¬ j * 4 + 2 = m * 4 + 2 := by have := unhide Hm; omega
            have z21 : ¬ m * 4 + 2 = j * 4 + 2 := by have := unhide Hm; omega
            have z22 : ¬ j * 4 + 2 = m * 4 + 3 := by have := unhide Hm; omega
            have z23 : ¬ m * 4 + 3 = j * 4 + 2 := by have := unhide Hm; omega
            have z24 : ¬ j * 4 + 3 = m * 4 := by have := unhide Hm; omega
            have z25 : ¬ m * 4 = j * 4 + 3 := by have := unhide Hm; omega
            have z26 : ¬ j * 4 + 3 = m * 4 + 1 := by have := unhide Hm; omega
            have z27 : ¬ m * 4 + 1 = j * 4 + 3 := by have := unhide Hm; omega
            have z28 : ¬ j * 4 + 3 = m * 4 + 2 := by have := unhide Hm; omega
            have z29 : ¬ m * 4 + 2 = j * 4 + 3 := by have := unhide Hm; omega
            have z30 : ¬ j * 4 + 3 = m * 4 + 3 := by have := unhide Hm; omega
            have z31 : ¬ m * 4 + 3 = j * 4 + 3 := by have := unhide Hm; omega
            go_wp2_with fail
            go_region
            go_wp2_with fail
            go_roundw
            case rel => exact ⟨m, F3, unhide Hq, by have := unhide Hm; omega, rfl, hide ⟨(unhide HS3).1.drew, (unhide HS3).2.1.drew, (unhide HS3).2.2⟩, HSA⟩
            case measure => simp [intOf]; have := unhide Hm; omega
          · have HF : Hid (Srt F2 x (k + 1)) := hide ((unhide HA).stop hj1 (Or.inr (by omega)))
            clear HA
            generalize F2 j = u at *
            generalize F2 (j - 1) = v at *
            generalize j - 1 = m at *
            have hdec : decide (u.fl - v.fl < 0) = false := by simp; omega
            have hc' : ¬ (u.fl - v.fl < 0) := by omega
            go_wp2_with fail
            go_region_held3 (fun W => W.cell? ⟨b, j * 4, none⟩ = some (.int .i64 u.line) ∧ W.cell? ⟨b, j * 4 + 1, none⟩ = some (.int .i64 u.fl) ∧ W.cell? ⟨b, j * 4 + 2, none⟩ = some (.string u.text) ∧ W.cell? ⟨b, j * 4 + 3, none⟩ = some (.bool u.warn) ∧ W.cell? ⟨b, m * 4, none⟩ = some (.int .i64 v.line) ∧ W.cell? ⟨b, m * 4 + 1, none⟩ = some (.int .i64 v.fl) ∧ W.cell? ⟨b, m * 4 + 2, none⟩ = some (.string v.text) ∧ W.cell? ⟨b, m * 4 + 3, none⟩ = some (.bool v.warn) ∧ QInv b j m u v wr W)
              (first | exact (unhide HQ).cells | exact (unhide HQ).drew.cells | (go_split_ands; exact (QInv.below (by assumption) (by assumption)).cells))
              ((go_at_call 18; refine (unhide C _).mono ?_; rintro e w2 ⟨rfl, hB2⟩))
            go_split_ands
            rename_i hQ2
            clear hB2
            have HJ2 : Hid (InI w b n x y F F2 w2) := hide ⟨(unhide HJ).1.below hn0 hQ2.2.2.1, (unhide HJ).2.1.trans (Kept.ofBelow hQ2.2.2.1), (unhide HJ).2.2⟩
            clear HJ HQ hQ2
            go_wp2_with fail
            go_roundw
            case rel => exact ⟨k + 1, F2, by omega, by omega, by go_num, HJ2, HF⟩
            case measure => simp [intOf]; omega
        · have hjx0 : j = x := by omega
          have HF : Hid (Srt F2 x (k + 1)) := hide ((unhide HA).stop hj1 (Or.inl hjx0))
          have hjx' : ¬ (x : Int) < (j : Int) := by omega
          have hdec : decide ((x : Int) < (j : Int)) = false := by simp; omega
          clear HA
          go_wp2_with fail
          go_quiet (fail)
          go_wp2_with fail
          go_roundw
          case rel => exact ⟨k + 1, F2, by omega, by omega, by go_num, hide ⟨(unhide HJ).1.drewN _, (unhide HJ).2.1.drewN _, (unhide HJ).2.2⟩, HF⟩
          case measure => simp [intOf]; omega
    · go_wp2_with fail
      first | go_end0 | refine bodyPost_ret (results_none rfl _ _ _) rfl ?_
      exact ⟨F1, ⟨rfl, (unhide HI).1, (unhide HI).2.1⟩, (unhide HI).2.2, fun p q h1 h2 h3 => unhide HS p q h1 h2 (by omega)⟩
end Go.Proofs.Qxb6002619a
