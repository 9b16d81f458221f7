/- zzPosDisjoint; what the law's walk keeps -/
import Derived.Test.Qxb6002619aMerge
namespace Go.Proofs.Qxb6002619a
open Go.ChangeShapes Go.WideShapes Go.ChangeAt Go.RowKit
set_option linter.unusedVariables false
set_option linter.unusedSimpArgs false

def PdPost (n n2 : Nat) (f h : Nat → Dg) (w : World) (e : Ending) (w' : World) : Prop :=
  ∃ r : Bool, e = .returned (.bool r) ∧ (r = true → (∀ i, i < n2 → 0 < (h i).fl) ∧ ∀ i, i < n2 → ∀ j, j < n → (f j).fl ≠ (h i).fl) ∧ Below w.heap.size w w'
set_option maxRecDepth 100000 in
set_option maxHeartbeats 1600000 in
theorem disjoint_any (a : Option Addr) (b o n c : Nat) (f : Nat → Dg) (a2 : Option Addr) (b2 o2 n2 c2 : Nat) (h : Nat → Dg) (w : World) (hn : n ≤ 4096) (hn2 : n2 ≤ 4096)
    (ha : Hid (0 < n → a = some ⟨b, o, none⟩)) (hd : Hid (∀ i, i < n → DAt w b o i (f i))) (hb : Hid (0 < n → b < w.heap.size))
    (ha2 : Hid (0 < n2 → a2 = some ⟨b2, o2, none⟩)) (hd2 : Hid (∀ i, i < n2 → DAt w b2 o2 i (h i))) (hb2 : Hid (0 < n2 → b2 < w.heap.size)) :
    Calls Try.prog 12 #[.slice a n c, .slice a2 n2 c2] w fun e w' => PdPost n n2 f h w e w' := by
  have hn' : (n : Int) ≤ 4096 := by omega
  have hn2' : (n2 : Int) ≤ 4096 := by omega
  go_enter Try.func12, Try.ntmps12
  go_wp2_with fail
  go_loopw [5] (fun i wr => ∃ k : Nat, k ≤ n2 ∧ i = .int .i64 k ∧ Hid (∀ i, i < k → 0 < (h i).fl) ∧ Hid (∀ i, i < k → ∀ j, j < n → (f j).fl ≠ (h i).fl) ∧ Hid (Below w.heap.size w wr)) (fun i _ => n2 - (intOf i).toNat)
  case atStart => exact ⟨0, Nat.zero_le _, rfl, hide (fun k hk => absurd hk (Nat.not_lt_zero k)), hide (fun k hk => absurd hk (Nat.not_lt_zero k)), hide (Below.refl _ _)⟩
  case round =>
    obtain ⟨k, hk, rfl, H1, H2, HB⟩ := hrel
    by_cases hlt : k < n2
    · have ea := unhide ha2 (by omega)
      subst ea
      have hlt' : (k : Int) < (n2 : Int) := by omega
      obtain ⟨d1, d2, d3, d4⟩ := (unhide hd2 k hlt).below (unhide HB) (unhide hb2 (by omega))
      clear d1 d3 d4
      by_cases hf : (h k).fl ≤ 0
      · go_wp2_with fail
        go_ret
        exact ⟨false, rfl, fun h => absurd h (by decide), unhide HB⟩
      · have hf' : 0 < (h k).fl := by omega
        clear hf
        go_wp2_with fail
        go_loopw [6] (fun i wr => ∃ l : Nat, l ≤ n ∧ i = .int .i64 l ∧ Hid (∀ j, j < l → (f j).fl ≠ (h k).fl) ∧ Hid (Below w.heap.size w wr)) (fun i _ => n - (intOf i).toNat)
        case atStart => exact ⟨0, Nat.zero_le _, rfl, hide (fun k hk => absurd hk (Nat.not_lt_zero k)), HB⟩
        case round =>
          obtain ⟨l, hl, rfl, H3, HB3⟩ := hrel
          by_cases hln : l < n
          · have ea := unhide ha (by omega)
            subst ea
            have hln' : (l : Int) < (n : Int) := by omega
            obtain ⟨d1, d2', d3, d4⟩ := (unhide hd2 k hlt).below (unhide HB3) (unhide hb2 (by omega))
            clear d1 d3 d4
            obtain ⟨d1, d2'', d3, d4⟩ := (unhide hd l hln).below (unhide HB3) (unhide hb (by omega))
            clear d1 d3 d4
            by_cases he : (f l).fl = (h k).fl
            · go_wp2_with fail
              go_quiet (fail)
              go_wp2_with fail
              go_ret
              exact ⟨false, rfl, fun h => absurd h (by decide), (below_drewN (unhide HB3) _)⟩
            · go_wp2_with fail
              go_quiet (fail)
              go_wp2_with fail
              go_roundw
              case rel => exact ⟨l + 1, by omega, by go_num, hide (fun j hj => by
                by_cases e : j = l
                · subst e; exact he
                · exact unhide H3 j (by omega)), hide (below_drewN (unhide HB3) _)⟩
              case measure => simp [intOf]; omega
          · go_wp2_with fail
            go_roundw
            case rel => exact ⟨k + 1, by omega, by go_num, hide (fun i hi => by
                by_cases e : i = k
                · subst e; exact hf'
                · exact unhide H1 i (by omega)), hide (fun i hi j hj => by
                by_cases e : i = k
                · subst e; exact unhide H3 j (by omega)
                · exact unhide H2 i (by omega) j hj), HB3⟩
            case measure => simp [intOf]; omega
    · go_wp2_with fail
      go_ret
      exact ⟨true, rfl, fun _ => ⟨fun i hi => unhide H1 i (by omega), fun i hi j hj => unhide H2 i (by omega) j hj⟩, unhide HB⟩

/-- all blocks below B stay -/
def Base (B : Nat) : Nat → Prop := fun k => k < B
theorem LIv.start (w : World) : LIv (Base w.heap.size) w w.heap.size [] (w.alloc (.cells #[.slice none 0 0, .int .i64 0] 25)) :=
  ⟨none, 0, 0, by rw [blk_alloc, if_pos rfl]; rfl, ⟨rfl, Or.inl ⟨rfl, rfl, rfl⟩⟩, Hold.ofBelow ((Below.refl _ _).alloc (Nat.le_refl _) _), fun h => Nat.lt_irrefl _ h, fun k hk h => absurd h (Nat.not_lt.2 hk)⟩
theorem LIv.bel {w : World} {lb : Nat} {D : List Dg} {W : World} (h : LIv (Base w.heap.size) w lb D W) : Below w.heap.size w W := by
  obtain ⟨_, _, _, _, _, h3, _, _⟩ := h
  exact h3.below (Nat.le_refl _) fun k hk => hk
theorem okd_row {n : Nat} {f : Nat → Dg} (hP : PosD n f) (hD : DistD n f) : ∀ k, k ≤ n → OkD ((List.range k).map f)
  | 0, _ => ⟨List.Pairwise.nil, by simp⟩
  | k + 1, hk => by
    have ih := okd_row hP hD k (by omega)
    rw [← rm_succ]
    refine ⟨dis_snoc ih.1 fun y hy => ?_, fun y hy => ?_⟩
    · simp at hy; obtain ⟨i, hi, rfl⟩ := hy; exact hD k (by omega) i hi
    · rw [List.mem_append, List.mem_singleton] at hy
      rcases hy with hy | rfl
      · exact ih.2 y hy
      · exact hP k (by omega)
theorem okd_fst {pre : List Dg} {n : Nat} {h : Nat → Dg} (hp : OkD pre) (hP : PosD n h) (hd : ∀ x ∈ pre, ∀ k, k < n → x.fl ≠ (h k).fl) {k : Nat} (hk : k ≤ n) : OkD (pre ++ fst1 h k) := by
  refine ⟨?_, fun y hy => ?_⟩
  · unfold Dis
    rw [List.pairwise_append]
    refine ⟨hp.1, dis_fst1 h k, fun x hx y hy => ?_⟩
    obtain ⟨i, hi, rfl⟩ := fst1_from h k hy
    exact hd x hx i (by omega)
  · rw [List.mem_append] at hy
    rcases hy with hy | hy
    · exact hp.2 y hy
    · obtain ⟨i, hi, rfl⟩ := fst1_from h k hy
      exact hP i (by omega)
theorem okd_stab {pre : List Dg} {n : Nat} {h F : Nat → Dg} (hp : OkD pre) (hP : PosD n h) (hd : ∀ x ∈ pre, ∀ k, k < n → x.fl ≠ (h k).fl) (hs : Stab n h F) : OkD (pre ++ fst1 F n) := by
  have hm : ∀ y, y ∈ fst1 F n → y ∈ fst1 h n := fun y hy => by rw [mem_fst1] at hy ⊢; rw [hs y.fl]; exact hy
  refine ⟨?_, fun y hy => ?_⟩
  · unfold Dis
    rw [List.pairwise_append]
    refine ⟨hp.1, dis_fst1 F n, fun x hx y hy => ?_⟩
    obtain ⟨i, hi, rfl⟩ := fst1_from h n (hm y hy)
    exact hd x hx i (by omega)
  · rw [List.mem_append] at hy
    rcases hy with hy | hy
    · exact hp.2 y hy
    · obtain ⟨i, hi, rfl⟩ := fst1_from h n (hm y hy)
      exact hP i (by omega)
/-- what the law's tail reads -/
structure Tail2 (w W : World) (lb mb m N : Nat) (a1 a2 : Option Addr) (c1 c2 : Nat) (g : Nat → Dg) (b1 b2 : Nat) : Prop where
  cell1 : blkOf W lb = [.slice a1 m c1, .int .i64 (N : Int)]
  cell2 : blkOf W mb = [.slice a2 m c2, .int .i64 (N : Int)]
  at1 : 0 < m → a1 = some ⟨b1, 0, none⟩
  at2 : 0 < m → a2 = some ⟨b2, 0, none⟩
  lt1 : b1 < W.heap.size
  lt2 : b2 < W.heap.size
  rd1 : ∀ i, i < m → DAt W b1 0 i (g i)
  rd2 : ∀ i, i < m → DAt W b2 0 i (g i)
  m50 : m ≤ 50
  bel : Below w.heap.size w W
theorem tail2_of {w w2 wm W : World} {lb mb : Nat} {D1 D2 : List Dg} (h0 : Below w.heap.size w w2) (h1 : LIv (Base w2.heap.size) w2 mb D1 wm) (h2 : LIv (Base wm.heap.size) wm lb D2 W) (hG : G D1 = G D2) (hl : D1.length = D2.length) :
    ∃ m N a1 a2 c1 c2 g b1 b2, Tail2 w W lb mb m N a1 a2 c1 c2 g b1 b2 := by
  have B2 := h2.bel
  have B1 := h1.bel
  have h1' := h1.below B2
  obtain ⟨a1, m1, c1, p1, p2, p3, _, _⟩ := h2
  obtain ⟨a2, m2, c2, q1, q2, q3, _, _⟩ := h1'
  have l1 : 0 < W.heap.size := Nat.lt_of_le_of_lt (Nat.zero_le _) (blk_lt (b := lb) (o := 0) (by rw [p1]; simp))
  obtain ⟨b1, r1, r2, r3⟩ := p2.reads l1
  obtain ⟨b2, s1, s2, s3⟩ := q2.reads l1
  have e : m2 = m1 := by rw [← p2.1, ← q2.1, hG]
  subst e
  refine ⟨m2, D2.length, a1, a2, c1, c2, fun i => ((G D2).take 50).getD i zD, b1, b2, p1, by rw [← hl]; exact q1, unhide r2, unhide s2, r1, s1, unhide r3, ?_, ?_, ?_⟩
  · rw [← hG]; exact unhide s3
  · have := p2.1; simp at this; omega
  · exact (h0.trans (B1.mono h0.size)).trans (B2.mono (Nat.le_trans h0.size B1.size))
end Go.Proofs.Qxb6002619a
