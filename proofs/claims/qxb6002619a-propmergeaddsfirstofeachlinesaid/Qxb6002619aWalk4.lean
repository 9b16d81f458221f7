/- PropMergeAddsFirstOfEachLine: the walk -/
import Derived.Test.Qxb6002619aDisj
import Derived.Test.Qxb6002619aArg
namespace Go.Proofs.Qxb6002619a
open Go.ChangeShapes Go.WideShapes Go.ChangeAt Go.RowKit
set_option linter.unusedVariables false
set_option linter.unusedSimpArgs false

theorem IsDs.below {w W : World} {a : Option Addr} {n c b o : Nat} {f : Nat → Dg} (h : IsDs w a n c b o f) (hB : Below w.heap.size w W) : IsDs W a n c b o f := by
  obtain ⟨h1, h2, h3, h4, h5, h6⟩ := h
  exact ⟨h1, h2, fun i hi => (h3 i hi).below hB (h4 (by omega)), fun h => Nat.lt_of_lt_of_le (h4 h) hB.size, h5, h6⟩
/-- the arguments, whatever has been allocated since -/
def Two (w : World) (a : Option Addr) (n c b o : Nat) (f : Nat → Dg) (a2 : Option Addr) (n2 c2 b2 o2 : Nat) (h : Nat → Dg) : Prop := IsDs w a n c b o f ∧ IsDs w a2 n2 c2 b2 o2 h
/-- what the first two tests have shown -/
structure Good (n n2 : Nat) (f h : Nat → Dg) : Prop where
  p1 : PosD n f
  d1 : DistD n f
  p2 : PosD n2 h
  dj : ∀ i, i < n2 → ∀ j, j < n → (f j).fl ≠ (h i).fl
theorem Good.row {n n2 : Nat} {f h : Nat → Dg} (g : Good n n2 f h) {k : Nat} (hk : k ≤ n) : OkD ((List.range k).map f) := okd_row g.p1 g.d1 k hk
theorem Good.apart {n n2 : Nat} {f h : Nat → Dg} (g : Good n n2 f h) : ∀ x ∈ (List.range n).map f, ∀ k, k < n2 → x.fl ≠ (h k).fl := by
  intro x hx k hk
  simp at hx
  obtain ⟨j, hj, rfl⟩ := hx
  exact g.dj k hk j hj
theorem Good.fst {n n2 : Nat} {f h : Nat → Dg} (g : Good n n2 f h) {k : Nat} (hk : k ≤ n2) : OkD ((List.range n).map f ++ fst1 h k) := okd_fst (g.row (Nat.le_refl _)) g.p2 g.apart hk

theorem LIv.drewN {P : Nat → Prop} {w : World} {lb : Nat} {D : List Dg} {W : World} (h : LIv P w lb D W) (q : Nat) : LIv P w lb D (W.drewN q) := h.below (below_drewN (Below.refl _ _) q)
theorem LIv.bel' {w : World} {lb mb : Nat} {D : List Dg} {W : World} (h : LIv (Base mb) w lb D W) (e : w.heap.size = mb) : Below w.heap.size w W := by subst e; exact h.bel
theorem merge_both (B lb n cb : Nat) (w W0 W : World) (a : Option Addr) (H : Nat → Dg) (D : List Dg) (hL : LIv (Base B) w lb D W0) (hB : Below W0.heap.size W0 W) (hcb : W0.heap.size = cb) (hn : n ≤ 4096) (ha : 0 < n → a = some ⟨cb, 0, none⟩ ∧ blkOf W cb = row ((List.range n).map H)) (hP : PosD n H) (hO : ∀ F, Stab n H F → OkD (D ++ fst1 F n)) (hD : D.length ≤ 4096) :
    Calls Try.prog 13 #[.pointer (some ⟨lb, 0, none⟩), .slice a n n] W fun e w' => MgPost (Base B) w lb n H D e w' := by
  by_cases h0 : 0 < n
  · obtain ⟨rfl, hM⟩ := ha h0
    exact merge_any (Base B) w W0 W lb cb n H D (hide hL) (hide hB) (hide (by omega)) hn h0 (hide hM) (hide hP) (hide hO) hD
  · have e0 : n = 0 := by omega
    subst e0
    refine (merge_nil a lb W).mono ?_
    rintro e w' ⟨rfl, rfl⟩
    exact ⟨rfl, H, Stab.refl _ _, by simpa [fst1] using hL.below hB⟩
theorem tail2_of' {w w2 wm W : World} {mb lb : Nat} {D1 D2 : List Dg} (h0 : Below w.heap.size w wm) (e : w2.heap.size = mb) (h1 : LIv (Base mb) w2 mb D1 wm) (h2 : LIv (Base wm.heap.size) wm lb D2 W) (hG : G D1 = G D2) (hl : D1.length = D2.length) :
    ∃ m N a1 a2 c1 c2 g b1 b2, Tail2 w W lb mb m N a1 a2 c1 c2 g b1 b2 := by
  have B2 := h2.bel
  have h1' := h1.below B2
  obtain ⟨a1, m1, c1, p1, p2, p3, _, _⟩ := h2
  obtain ⟨a2, m2, c2, q1, q2, q3, _, _⟩ := h1'
  have l1 : 0 < W.heap.size := Nat.lt_of_le_of_lt (Nat.zero_le _) (blk_lt (b := lb) (o := 0) (by rw [p1]; simp))
  obtain ⟨b1, r1, r2, r3⟩ := p2.reads l1
  obtain ⟨b2, s1, s2, s3⟩ := q2.reads l1
  have e : m2 = m1 := by rw [← p2.1, ← q2.1, hG]
  subst e
  refine ⟨m2, D2.length, a1, a2, c1, c2, fun i => ((G D2).take 50).getD i zD, b1, b2, p1, by rw [← hl]; exact q1, unhide r2, unhide s2, r1, s1, unhide r3, ?_, ?_, ?_⟩
  · rw [← hG]; exact unhide s3
  · have := p2.1; simp at this; omega
  · exact h0.trans (B2.mono h0.size)
/-- one more of the first of each line -/
theorem fst1_take {h : Nat → Dg} {k : Nat} (hk : ∀ j, j < k → (h j).fl ≠ (h k).fl) : fst1 h (k + 1) = fst1 h k ++ [h k] := by
  exact fst1_pos ((flt_nil_iff h _ k).2 hk)
theorem fst1_skip {h : Nat → Dg} {k l : Nat} (hl : l < k) (he : (h l).fl = (h k).fl) : fst1 h (k + 1) = fst1 h k := by
  exact fst1_neg (by rw [flt_nil_iff]; exact fun hh => hh l hl he)

set_option maxRecDepth 100000 in
set_option maxHeartbeats 3200000 in
theorem law4_any (a : Option Addr) (b o n c : Nat) (f : Nat → Dg) (a2 : Option Addr) (b2 o2 n2 c2 : Nat) (h : Nat → Dg) (w : World) (hnm : n ≤ 9223372036854775807) (hnm2 : n2 ≤ 9223372036854775807) (i1 : Hid (IsDs w a n c b o f)) (i2 : Hid (IsDs w a2 n2 c2 b2 o2 h)) :
    Calls Try.prog 4 #[.slice a n c, .slice a2 n2 c2] w fun e w' => e = .returned (.bool true) ∧ Below w.heap.size w w' := by
  have hnm' : (n : Int) ≤ 9223372036854775807 := by omega
  have hnm2' : (n2 : Int) ≤ 9223372036854775807 := by omega
  by_cases hn : 4096 < n
  · have hn' : (4096 : Int) < (n : Int) := by omega
    go_enter Try.func4, Try.ntmps4
    go_wp2_with fail
    go_ret
    exact ⟨rfl, Below.refl _ _⟩
  · have hn1 : n ≤ 4096 := by omega
    have hn' : (n : Int) ≤ 4096 := by omega
    by_cases hm : 4096 < n2
    · have hm' : (4096 : Int) < (n2 : Int) := by omega
      clear hn
      go_enter Try.func4, Try.ntmps4
      go_wp2_with fail
      go_ret
      exact ⟨rfl, Below.refl _ _⟩
    · have hm2 : n2 ≤ 4096 := by omega
      have hm' : (n2 : Int) ≤ 4096 := by omega
      clear hn hm hnm hnm' hnm2 hnm2'
      have C5 := hide (distinct_any a b o n c f w hn1 (hide (unhide i1).1) (hide (unhide i1).2.2.1) (hide (unhide i1).2.2.2.1))
      go_enter Try.func4, Try.ntmps4
      go_wp2_with fail
      refine (unhide C5).mono ?_
      rintro e w1 ⟨r, rfl, hr, B1⟩
      have HB1 := hide B1
      clear B1 C5
      cases r with
      | false =>
        clear hr
        go_wp2_with fail
        go_ret
        exact ⟨rfl, unhide HB1⟩
      | true =>
        have H1 : Hid (PosD n f ∧ DistD n f) := hide ⟨fun i hi => ⟨(hr rfl).1 i hi, (unhide i1).2.2.2.2.1 i hi⟩, (hr rfl).2⟩
        clear hr
        have j1 := hide ((unhide i1).below (unhide HB1))
        have j2 := hide ((unhide i2).below (unhide HB1))
        clear i1 i2
        have C12 := hide (disjoint_any a b o n c f a2 b2 o2 n2 c2 h w1 hn1 hm2 (hide (unhide j1).1) (hide (unhide j1).2.2.1) (hide (unhide j1).2.2.2.1) (hide (unhide j2).1) (hide (unhide j2).2.2.1) (hide (unhide j2).2.2.2.1))
        go_wp2_with fail
        refine (unhide C12).mono ?_
        rintro e w2 ⟨r, rfl, hr, B2⟩
        have HB2 : Hid (Below w.heap.size w w2) := hide ((unhide HB1).trans (B2.mono (unhide HB1).size))
        cases r with
        | false =>
          clear hr B2 C12
          go_wp2_with fail
          go_ret
          exact ⟨rfl, unhide HB2⟩
        | true =>
          have HG : Hid (Good n n2 f h) := hide ⟨(unhide H1).1, (unhide H1).2, fun i hi => ⟨(hr rfl).1 i hi, (unhide j2).2.2.2.2.1 i hi⟩, (hr rfl).2⟩
          have i1 := hide ((unhide j1).below B2)
          have i2 := hide ((unhide j2).below B2)
          clear hr B2 C12 j1 j2 H1 HB1
          have HL0 := hide (LIv.start w2)
          go_wp2_with fail
          generalize hmb : w2.heap.size = mb at *
          have Hmb := hide hmb
          clear hmb
          go_loopw [6] (fun i wr => ∃ k : Nat, k ≤ n ∧ i = .int .i64 k ∧ Hid (LIv (Base mb) w2 mb ((List.range k).map f) wr)) (fun i _ => n - (intOf i).toNat)
          case atStart => exact ⟨0, Nat.zero_le _, rfl, HL0⟩
          case round =>
            clear HL0
            obtain ⟨k, hk, rfl, HI⟩ := hrel
            have k4 : (k : Int) ≤ 4096 := by omega
            by_cases hlt : k < n
            · have hlt' : (k : Int) < (n : Int) := by omega
              have ea := (unhide i1).1 (by omega)
              subst ea
              obtain ⟨d1, d2, d3, d4⟩ := ((unhide i1).below ((unhide HI).bel' (unhide Hmb))).2.2.1 k hlt
              have C6 : Hid (Calls Try.prog 6 #[.pointer (some ⟨mb, 0, none⟩), .agg #[.int .i64 (f k).line, .int .i64 (f k).fl, .string (f k).text, .bool (f k).warn]] wr fun e w' => e = .returned (.tuple #[]) ∧ LIv (Base mb) w2 mb ((List.range (k + 1)).map f) w') := hide (by
                have := (unhide HI).add (d := f k) (by rw [rm_succ]; exact (unhide HG).row (by omega)) (by simp; omega)
                rwa [rm_succ] at this)
              clear HI
              go_wp2_with fail
              refine (unhide C6).mono ?_
              rintro e w3 ⟨rfl, h3⟩
              have H3 := hide h3
              clear h3 C6
              go_wp2_with fail
              go_roundw
              case rel => exact ⟨k + 1, by omega, by go_num, H3⟩
              case measure => simp [intOf]; omega
            · have hge : (n : Int) ≤ (k : Int) := by omega
              have HI2 : Hid (LIv (Base mb) w2 mb ((List.range n).map f ++ fst1 h 0) wr) := by
                have ek : k = n := by omega
                rw [← ek]; simpa [fst1] using HI
              clear HI
              go_wp2_with fail
              go_loopw [7] (fun i wr => ∃ k : Nat, k ≤ n2 ∧ i = .int .i64 k ∧ Hid (LIv (Base mb) w2 mb ((List.range n).map f ++ fst1 h k) wr)) (fun i _ => n2 - (intOf i).toNat)
              case atStart => exact ⟨0, Nat.zero_le _, rfl, HI2⟩
              case round =>
                clear HI2 hlt hge hk k4
                obtain ⟨k, hk, rfl, HI⟩ := hrel
                have k4 : (k : Int) ≤ 4096 := by omega
                by_cases hlt : k < n2
                · have hlt' : (k : Int) < (n2 : Int) := by omega
                  have ea := (unhide i2).1 (by omega)
                  subst ea
                  go_wp2_with fail
                  go_loopw [8, 9] (fun v i wr => ∃ l : Nat, l ≤ k ∧ v = .bool true ∧ i = .int .i64 l ∧ Hid (∀ j, j < l → (h j).fl ≠ (h k).fl) ∧ Hid (LIv (Base mb) w2 mb ((List.range n).map f ++ fst1 h k) wr)) (fun _ i _ => k - (intOf i).toNat)
                  case atStart => exact ⟨0, Nat.zero_le _, rfl, rfl, hide (fun j hj => absurd hj (Nat.not_lt_zero j)), HI⟩
                  case round =>
                    clear HI
                    obtain ⟨l, hl, rfl, rfl, HN, HI⟩ := hrel
                    have l4 : (l : Int) ≤ 4096 := by omega
                    obtain ⟨d1, d2, d3, d4⟩ := ((unhide i2).below ((unhide HI).bel' (unhide Hmb))).2.2.1 k hlt
                    by_cases hlk : l < k
                    · clear d1 d3 d4
                      have hlk' : (l : Int) < (k : Int) := by omega
                      have hln' : (l : Int) < (n2 : Int) := by omega
                      have hln : l < n2 := by omega
                      obtain ⟨d1, e2, d3, d4⟩ := ((unhide i2).below ((unhide HI).bel' (unhide Hmb))).2.2.1 l hln
                      clear d1 d3 d4
                      by_cases he : (h l).fl = (h k).fl
                      · have HS : Hid (fst1 h (k + 1) = fst1 h k) := hide (fst1_skip hlk he)
                        go_wp2_with fail
                        go_quiet (fail)
                        go_wp2_with fail
                        go_roundw
                        case rel => exact ⟨k + 1, by omega, by go_num, by rw [unhide HS]; exact hide ((unhide HI).drewN _)⟩
                        case measure => simp [intOf]; omega
                      · go_wp2_with fail
                        go_quiet (fail)
                        go_wp2_with fail
                        go_roundw
                        case rel => exact ⟨l + 1, by omega, rfl, by go_num, hide (fun j hj => by
                          by_cases e : j = l
                          · subst e; exact he
                          · exact unhide HN j (by omega)), hide ((unhide HI).drewN _)⟩
                        case measure => simp [intOf]; omega
                    · have hge : (k : Int) ≤ (l : Int) := by omega
                      have C6 : Hid (Calls Try.prog 6 #[.pointer (some ⟨mb, 0, none⟩), .agg #[.int .i64 (h k).line, .int .i64 (h k).fl, .string (h k).text, .bool (h k).warn]] wr fun e w' => e = .returned (.tuple #[]) ∧ LIv (Base mb) w2 mb ((List.range n).map f ++ fst1 h (k + 1)) w') := hide (by
                        have e := fst1_take (h := h) (k := k) fun j hj => unhide HN j (by omega)
                        have := (unhide HI).add (d := h k) (by rw [List.append_assoc, ← e]; exact (unhide HG).fst (by omega)) (by have := fst1_len h k; simp; omega)
                        rwa [List.append_assoc, ← e] at this)
                      clear HI HN
                      go_wp2_with fail
                      refine (unhide C6).mono ?_
                      rintro e w3 ⟨rfl, h3⟩
                      have H3 := hide h3
                      clear h3 C6
                      go_wp2_with fail
                      go_roundw
                      case rel => exact ⟨k + 1, by omega, by go_num, H3⟩
                      case measure => simp [intOf]; omega
                · have hge : (n2 : Int) ≤ (k : Int) := by omega
                  have HI2 : Hid (LIv (Base mb) w2 mb ((List.range n).map f ++ fst1 h n2) wr) := by
                    have ek : k = n2 := by omega
                    rw [← ek]; exact HI
                  clear HI
                  have HL0 := hide (LIv.start wr)
                  have j1 := hide ((unhide i1).below ((unhide HI2).bel' (unhide Hmb)))
                  have j2 := hide ((unhide i2).below ((unhide HI2).bel' (unhide Hmb)))
                  clear i1 i2
                  have HBm : Hid (Below w.heap.size w wr) := hide ((unhide HB2).trans (((unhide HI2).bel' (unhide Hmb)).mono (unhide HB2).size))
                  have HLm := HI2
                  clear HI2 HB2
                  go_wp2_with fail
                  clear hlt hge hk k4
                  obtain ⟨lb, hlb⟩ : ∃ lb, wr.heap.size = lb := ⟨_, rfl⟩
                  have Hlb := hide hlb
                  rw [hlb] at HL0 ⊢
                  clear hlb
                  obtain ⟨wm, hwm⟩ : ∃ wm, wm = wr := ⟨_, rfl⟩
                  rw [← hwm] at HLm HBm Hlb j1 j2 HL0 ⊢
                  clear hwm
                  go_loopw [11] (fun i wr => ∃ k : Nat, k ≤ n ∧ i = .int .i64 k ∧ Hid (LIv (Base lb) wm lb ((List.range k).map f) wr)) (fun i _ => n - (intOf i).toNat)
                  case atStart => exact ⟨0, Nat.zero_le _, rfl, HL0⟩
                  case round =>
                    clear HL0
                    obtain ⟨k, hk, rfl, HI⟩ := hrel
                    have k4 : (k : Int) ≤ 4096 := by omega
                    by_cases hlt : k < n
                    · have hlt' : (k : Int) < (n : Int) := by omega
                      have ea := (unhide j1).1 (by omega)
                      subst ea
                      obtain ⟨d1, d2, d3, d4⟩ := ((unhide j1).below ((unhide HI).bel' (unhide Hlb))).2.2.1 k hlt
                      have C6 : Hid (Calls Try.prog 6 #[.pointer (some ⟨lb, 0, none⟩), .agg #[.int .i64 (f k).line, .int .i64 (f k).fl, .string (f k).text, .bool (f k).warn]] wr fun e w' => e = .returned (.tuple #[]) ∧ LIv (Base lb) wm lb ((List.range (k + 1)).map f) w') := hide (by
                        have := (unhide HI).add (d := f k) (by rw [rm_succ]; exact (unhide HG).row (by omega)) (by simp; omega)
                        rwa [rm_succ] at this)
                      clear HI
                      go_wp2_with fail
                      refine (unhide C6).mono ?_
                      rintro e w3 ⟨rfl, h3⟩
                      have H3 := hide h3
                      clear h3 C6
                      go_wp2_with fail
                      go_roundw
                      case rel => exact ⟨k + 1, by omega, by go_num, H3⟩
                      case measure => simp [intOf]; omega
                    · have hge : (n : Int) ≤ (k : Int) := by omega
                      have HI2 : Hid (LIv (Base lb) wm lb ((List.range n).map f) wr) := by
                        have ek : k = n := by omega
                        rw [← ek]; exact HI
                      clear HI
                      have l2 := (unhide j2).below ((unhide HI2).bel' (unhide Hlb))
                      have C8 := hide (clone_any a2 b2 o2 n2 c2 h wr hm2 (hide l2.1) (hide l2.2.1) (hide l2.2.2.1) (hide l2.2.2.2.1))
                      clear l2 j1 j2
                      go_wp2_with fail
                      refine (unhide C8).mono ?_
                      rintro e w3 ⟨a3, rfl, h3, B3⟩
                      have C13 := hide (merge_both lb lb n2 wr.heap.size wm wr w3 a3 h ((List.range n).map f) (unhide HI2) B3 rfl hm2 h3 (unhide HG).p2 (fun F hF => okd_stab ((unhide HG).row (Nat.le_refl _)) (unhide HG).p2 (unhide HG).apart hF) (by simp; omega))
                      clear h3 B3 C8 HI2
                      go_wp2_with fail
                      refine (unhide C13).mono ?_
                      rintro e w4 ⟨rfl, F, hF, hL⟩
                      have hpl := merge_same ((List.range n).map f) n2 h F hF ((unhide HG).row (Nat.le_refl _)).1 (unhide HG).apart
                      obtain ⟨m, N, x1, x2, y1, y2, g, z1, z2, T⟩ : ∃ m N a1 a2 c1 c2 g b1 b2, Tail2 w w4 lb mb m N a1 a2 c1 c2 g b1 b2 := by
                        have e1 := unhide Hlb
                        subst e1
                        exact tail2_of' (unhide HBm) (unhide Hmb) (unhide HLm) hL hpl.1 hpl.2
                      have HT := hide T
                      clear T hpl hL hF C13 HG HLm HBm
                      have C7 := hide (len_any lb _ _ w4 (unhide HT).cell1)
                      have C7' := hide (len_any mb _ _ w4 (unhide HT).cell2)
                      have C10 := hide (shown_any lb _ _ _ _ w4 (unhide HT).cell1)
                      have C10' := hide (shown_any mb _ _ _ _ w4 (unhide HT).cell2)
                      have C11 := hide (same_any x1 x2 z1 0 z2 0 m y1 y2 g w4 (by have := (unhide HT).m50; omega) (hide (unhide HT).at1) (hide (unhide HT).at2) (hide (unhide HT).rd1) (hide (unhide HT).rd2) (hide fun _ => ⟨(unhide HT).lt1, (unhide HT).lt2⟩))
                      go_wp2_with fail
                      refine (unhide C7).mono ?_
                      rintro e w5 ⟨rfl, rfl⟩
                      go_wp2_with fail
                      refine (unhide C7').mono ?_
                      rintro e w6 ⟨rfl, rfl⟩
                      go_wp2_with fail
                      refine (unhide C10).mono ?_
                      rintro e w7 ⟨rfl, rfl⟩
                      go_wp2_with fail
                      refine (unhide C10').mono ?_
                      rintro e w8 ⟨rfl, rfl⟩
                      go_wp2_with fail
                      refine (unhide C11).mono ?_
                      rintro e w9 ⟨rfl, B9⟩
                      go_wp2_with fail
                      go_ret
                      exact ⟨rfl, (unhide HT).bel.trans (B9.mono (unhide HT).bel.size)⟩
end Go.Proofs.Qxb6002619a
