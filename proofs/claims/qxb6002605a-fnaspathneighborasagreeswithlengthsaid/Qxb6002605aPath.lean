/- ASPath's Length, NeighborAS; zzInSequence -/
import Derived.Test.Qxb6002605aBlk
namespace Go.Proofs.Qxb6002605a
open Go.ChangeShapes Go.WideShapes Go.ChangeAt Go.RowKit
set_option linter.unusedVariables false
set_option linter.unusedSimpArgs false

/-- a path's segments in memory: from cell o of block pb on, n of them; segment i has type τ i, l i ASes, v i j the j-th, in block β i -/
def SegsAt (W : World) (pb o n : Nat) (τ : Nat → Int) (β l : Nat → Nat) (v : Nat → Nat → Int) : Prop :=
  ∀ i, i < n → W.cell? ⟨pb, o + i * 2, none⟩ = some (.int .u8 (τ i)) ∧ W.cell? ⟨pb, o + i * 2 + 1, none⟩ = some (.slice (some ⟨β i, 0, none⟩) (l i) (l i)) ∧ l i ≤ 65536 ∧ ∀ j, j < l i → W.cell? ⟨β i, j, none⟩ = some (.int .u32 (v i j))
theorem SegsAt.below {B : Nat} {W W' : World} {pb o n : Nat} {τ : Nat → Int} {β l : Nat → Nat} {v : Nat → Nat → Int} (h : SegsAt W pb o n τ β l v) (hb : Below B W W') (hB : W.heap.size ≤ B) : SegsAt W' pb o n τ β l v := by
  intro i hi
  obtain ⟨h1, h2, h3, h4⟩ := h i hi
  refine ⟨?_, ?_, h3, fun j hj => ?_⟩
  · rw [hb.cell (p := ⟨_, _, _⟩) (Nat.lt_of_lt_of_le (World.block_lt_of_cell? _ _ h1) hB)]; exact h1
  · rw [hb.cell (p := ⟨_, _, _⟩) (Nat.lt_of_lt_of_le (World.block_lt_of_cell? _ _ h2) hB)]; exact h2
  · have := h4 j hj
    rw [hb.cell (p := ⟨_, _, _⟩) (Nat.lt_of_lt_of_le (World.block_lt_of_cell? _ _ this) hB)]; exact this
/-- a piece of it -/
theorem SegsAt.piece {W : World} {pb o n : Nat} {τ : Nat → Int} {β l : Nat → Nat} {v : Nat → Nat → Int} (h : SegsAt W pb o n τ β l v) (s m : Nat) (hs : s + m ≤ n) :
    SegsAt W pb (o + s * 2) m (fun i => τ (s + i)) (fun i => β (s + i)) (fun i => l (s + i)) (fun i => v (s + i)) := by
  intro i hi
  obtain ⟨h1, h2, h3, h4⟩ := h (s + i) (by omega)
  have e : o + s * 2 + i * 2 = o + (s + i) * 2 := by omega
  rw [e]
  exact ⟨h1, h2, h3, h4⟩

/-! ### the plain functions -/
/-- the segments from i on, m of them: type, length, first AS -/
def segs (τ : Nat → Int) (l : Nat → Nat) (v : Nat → Nat → Int) (i m : Nat) : List (Int × Nat × Int) := (List.range m).map fun j => (τ (i + j), l (i + j), v (i + j) 0)
def plen : List (Int × Nat × Int) → Int
  | [] => 0
  | (t, n, _) :: r => (if t = 2 then (n : Int) else if t = 1 then 1 else 0) + plen r
def nbr : List (Int × Nat × Int) → Int
  | [] => 0
  | (t, n, x) :: r => if t = 2 ∧ 0 < n then x else if t = 1 then 0 else nbr r
theorem segs_cons (τ : Nat → Int) (l : Nat → Nat) (v : Nat → Nat → Int) (i m : Nat) : segs τ l v i (m + 1) = (τ i, l i, v i 0) :: segs τ l v (i + 1) m := by
  unfold segs
  rw [List.range_succ_eq_map, List.map_cons, List.map_map]
  congr 1
  apply List.map_congr_left
  intro j _
  show (τ (i + (j + 1)), l (i + (j + 1)), v (i + (j + 1)) 0) = _
  rw [show i + (j + 1) = i + 1 + j from by omega]
theorem segs_split (τ : Nat → Int) (l : Nat → Nat) (v : Nat → Nat → Int) : ∀ (s i m : Nat), segs τ l v i (s + m) = segs τ l v i s ++ segs τ l v (i + s) m
  | 0, i, m => by rw [Nat.zero_add]; rfl
  | s + 1, i, m => by
    rw [show s + 1 + m = (s + m) + 1 from by omega, segs_cons, segs_cons, segs_split τ l v s (i + 1) m, show i + (s + 1) = i + 1 + s from by omega]
    rfl
theorem segs_snoc (τ : Nat → Int) (l : Nat → Nat) (v : Nat → Nat → Int) (m : Nat) : segs τ l v 0 (m + 1) = segs τ l v 0 m ++ [(τ m, l m, v m 0)] := by
  rw [segs_split τ l v m 0 1, Nat.zero_add]; rfl
theorem plen_append : ∀ (a b : List (Int × Nat × Int)), plen (a ++ b) = plen a + plen b
  | [], b => by simp [plen]
  | (t, n, x) :: r, b => by
    show (if t = 2 then (n : Int) else if t = 1 then 1 else 0) + plen (r ++ b) = _
    rw [plen_append r b]; simp only [plen]; omega
theorem plen_nonneg : ∀ (a : List (Int × Nat × Int)), 0 ≤ plen a
  | [] => by simp [plen]
  | (t, n, x) :: r => by
    have := plen_nonneg r
    simp only [plen]
    split
    · omega
    · split <;> omega
theorem plen_le (τ : Nat → Int) (l : Nat → Nat) (v : Nat → Nat → Int) : ∀ (m i : Nat), (∀ j, j < m → l (i + j) ≤ 65536) → plen (segs τ l v i m) ≤ 65536 * (m : Int)
  | 0, i, h => by simp [segs, plen]
  | m + 1, i, h => by
    rw [segs_cons]
    have ih := plen_le τ l v m (i + 1) (fun j hj => by have := h (j + 1) (by omega); rwa [show i + 1 + j = i + (j + 1) from by omega])
    have h0 := h 0 (by omega)
    rw [Nat.add_zero] at h0
    simp only [plen]
    split
    · omega
    · split <;> omega
/-- THE PLAIN LAWS -/
theorem nbr_zero : ∀ (a b : List (Int × Nat × Int)), plen a = 0 → nbr a = 0 ∧ nbr (a ++ b) = nbr b
  | [], b, _ => ⟨rfl, rfl⟩
  | (t, n, x) :: r, b, h => by
    have h1 := plen_nonneg r
    simp only [plen] at h
    by_cases h2 : t = 2
    · rw [if_pos h2] at h
      have hn : n = 0 := by omega
      have ih := nbr_zero r b (by omega)
      subst h2
      have e : ∀ q, nbr ((2, n, x) :: q) = nbr q := fun q => by simp [nbr, hn]
      exact ⟨by rw [e]; exact ih.1, by rw [List.cons_append, e]; exact ih.2⟩
    · rw [if_neg h2] at h
      by_cases h3 : t = 1
      · rw [if_pos h3] at h; omega
      · rw [if_neg h3] at h
        have ih := nbr_zero r b (by omega)
        have e : ∀ q, nbr ((t, n, x) :: q) = nbr q := fun q => by simp [nbr, h2, h3]
        exact ⟨by rw [e]; exact ih.1, by rw [List.cons_append, e]; exact ih.2⟩
theorem nbr_first : ∀ (a b : List (Int × Nat × Int)), ¬ nbr a = 0 → nbr (a ++ b) = nbr a
  | [], b, h => absurd rfl h
  | (t, n, x) :: r, b, h => by
    rw [List.cons_append]
    simp only [nbr] at h ⊢
    split
    · rfl
    · rename_i h1
      rw [if_neg h1] at h
      split
      · rfl
      · rename_i h2
        rw [if_neg h2] at h
        exact nbr_first r b h
theorem nbr_long : ∀ (a : List (Int × Nat × Int)), ¬ nbr a = 0 → 1 ≤ plen a
  | [], h => absurd rfl h
  | (t, n, x) :: r, h => by
    have h1 := plen_nonneg r
    simp only [nbr] at h
    simp only [plen]
    by_cases h2 : t = 2
    · rw [if_pos h2]
      by_cases h3 : 0 < n
      · omega
      · rw [if_neg (by omega), if_neg (by omega)] at h
        have := nbr_long r h
        omega
    · rw [if_neg h2]
      rw [if_neg (by omega)] at h
      by_cases h3 : t = 1
      · rw [if_pos h3] at h; exact absurd rfl h
      · rw [if_neg h3] at h ⊢
        have := nbr_long r h
        omega
theorem nbr_in : ∀ (a : List (Int × Nat × Int)), ¬ nbr a = 0 → ∃ s ∈ a, s.1 = 2 ∧ 0 < s.2.1 ∧ s.2.2 = nbr a
  | [], h => absurd rfl h
  | (t, n, x) :: r, h => by
    simp only [nbr] at h ⊢
    by_cases h1 : t = 2 ∧ 0 < n
    · rw [if_pos h1]
      exact ⟨_, List.mem_cons_self, h1.1, h1.2, rfl⟩
    · rw [if_neg h1] at h ⊢
      by_cases h2 : t = 1
      · rw [if_pos h2] at h; exact absurd rfl h
      · rw [if_neg h2] at h ⊢
        obtain ⟨s, hs, q⟩ := nbr_in r h
        exact ⟨s, List.mem_cons_of_mem _ hs, q⟩

/-! ### the walks -/
set_option maxRecDepth 100000 in
set_option maxHeartbeats 800000 in
theorem length_any (pb o n c : Nat) (τ : Nat → Int) (β l : Nat → Nat) (v : Nat → Nat → Int) (w : World) (hn : n ≤ 65536) (hs : Hid (SegsAt w pb o n τ β l v)) :
    Calls Try.prog 12 #[.slice (some ⟨pb, o, none⟩) n c] w fun e w' => e = .returned (.int .i64 (plen (segs τ l v 0 n))) ∧ Below w.heap.size w w' := by
  have hn' : (n : Int) ≤ 65536 := by omega
  go_enter Try.func12, Try.ntmps12
  go_wp2
  go_loopw [3, 8] (fun a i wr => ∃ k : Nat, k ≤ n ∧ i = .int .i64 k ∧ a = .int .i64 (plen (segs τ l v 0 k)) ∧ Hid (Below w.heap.size w wr)) (fun _ i _ => n - (intOf i).toNat)
  case atStart => exact ⟨0, Nat.zero_le _, rfl, rfl, hide (Below.refl _ _)⟩
  case round =>
    obtain ⟨k, hk, rfl, rfl, HB⟩ := hrel
    by_cases hlt : k < n
    · obtain ⟨h1, h2, h3, h4⟩ := (unhide hs).below (unhide HB) (Nat.le_refl _) k hlt
      have hp0 := plen_nonneg (segs τ l v 0 k)
      have hp1 := plen_le τ l v k 0 (fun j hj => by rw [Nat.zero_add]; exact (unhide hs j (by omega)).2.2.1)
      have HP : Hid (plen (segs τ l v 0 (k + 1)) = plen (segs τ l v 0 k) + (if τ k = 2 then (l k : Int) else if τ k = 1 then 1 else 0)) := hide (by rw [segs_snoc, plen_append]; simp [plen])
      have h3' : (l k : Int) ≤ 65536 := by omega
      have B := (unhide HB).size
      generalize plen (segs τ l v 0 k) = A at *
      clear h4
      by_cases t2 : τ k = 2
      · have t2' : (τ k == 2) = true := by simp [t2]
        have HP' : Hid (plen (segs τ l v 0 (k + 1)) = A + (l k : Int)) := hide (by rw [unhide HP, if_pos t2])
        clear t2 HP
        go_wp2
        go_roundw
        case rel => exact ⟨k + 1, by omega, by go_num, by rw [unhide HP'], hide ((unhide HB).alloc (unhide HB).size _)⟩
        case measure => simp [intOf]; omega
      · have t2' : (τ k == 2) = false := by simp [t2]
        by_cases t1 : τ k = 1
        · have t1' : (τ k == 1) = true := by simp [t1]
          have HP' : Hid (plen (segs τ l v 0 (k + 1)) = A + 1) := hide (by rw [unhide HP, if_neg t2, if_pos t1])
          clear t2 t1 HP
          go_wp2
          go_roundw
          case rel => exact ⟨k + 1, by omega, by go_num, by rw [unhide HP'], hide ((unhide HB).alloc (unhide HB).size _)⟩
          case measure => simp [intOf]; omega
        · have t1' : (τ k == 1) = false := by simp [t1]
          have HP' : Hid (plen (segs τ l v 0 (k + 1)) = A) := hide (by rw [unhide HP, if_neg t2, if_neg t1]; omega)
          clear t2 t1 HP
          go_wp2
          go_roundw
          case rel => exact ⟨k + 1, by omega, by go_num, by rw [unhide HP'], hide ((unhide HB).alloc (unhide HB).size _)⟩
          case measure => simp [intOf]; omega
    · have hkn : k = n := by omega
      subst hkn
      go_wp2
      go_ret
      exact ⟨rfl, unhide HB⟩

theorem nbr_seq (τ : Nat → Int) (l : Nat → Nat) (v : Nat → Nat → Int) (k m : Nat) (h : τ k = 2 ∧ 0 < l k) : nbr (segs τ l v k (m + 1)) = v k 0 := by rw [segs_cons]; simp [nbr, h]
theorem nbr_set (τ : Nat → Int) (l : Nat → Nat) (v : Nat → Nat → Int) (k m : Nat) (h : τ k = 1) : nbr (segs τ l v k (m + 1)) = 0 := by rw [segs_cons]; simp [nbr, h]
theorem nbr_skip (τ : Nat → Int) (l : Nat → Nat) (v : Nat → Nat → Int) (k m : Nat) (h : ¬ (τ k = 2 ∧ 0 < l k)) (h1 : ¬ τ k = 1) : nbr (segs τ l v k (m + 1)) = nbr (segs τ l v (k + 1) m) := by
  rw [segs_cons]; simp only [nbr]; rw [if_neg h, if_neg h1]
theorem ret_u32 {a b : Int} (h : a = b) : Ending.returned (.int .u32 a) = .returned (.int .u32 b) := by rw [h]

set_option maxRecDepth 100000 in
set_option maxHeartbeats 800000 in
theorem neighbor_any (pb o n c : Nat) (τ : Nat → Int) (β l : Nat → Nat) (v : Nat → Nat → Int) (w : World) (hn : n ≤ 65536) (hs : Hid (SegsAt w pb o n τ β l v)) :
    Calls Try.prog 15 #[.slice (some ⟨pb, o, none⟩) n c] w fun e w' => e = .returned (.int .u32 (nbr (segs τ l v 0 n))) ∧ Below w.heap.size w w' := by
  have hn' : (n : Int) ≤ 65536 := by omega
  go_enter Try.func15, Try.ntmps15
  go_wp2
  go_loopw [7] (fun i wr => ∃ k : Nat, k ≤ n ∧ i = .int .i64 k ∧ Hid (nbr (segs τ l v 0 n) = nbr (segs τ l v k (n - k))) ∧ Hid (Below w.heap.size w wr)) (fun i _ => n - (intOf i).toNat)
  case atStart => exact ⟨0, Nat.zero_le _, rfl, hide rfl, hide (Below.refl _ _)⟩
  case round =>
    obtain ⟨k, hk, rfl, HN, HB⟩ := hrel
    by_cases hlt : k < n
    · obtain ⟨h1, h2, h3, h4⟩ := (unhide hs).below (unhide HB) (Nat.le_refl _) k hlt
      have e : n - k = (n - (k + 1)) + 1 := by omega
      have E := hide e
      clear e
      have B := (unhide HB).size
      have h3' : (l k : Int) ≤ 65536 := by omega
      by_cases t2 : τ k = 2
      · have t2' : (τ k == 2) = true := by simp [t2]
        by_cases hl : 0 < l k
        · have hl' : (0 : Int) < (l k : Int) := by omega
          have hc0 : ∀ ob : Obj, (wr.alloc ob).cell? ⟨β k, 0, none⟩ = some (.int .u32 (v k 0)) := fun ob => by
            have := h4 0 hl
            rw [World.cell?_alloc_lt _ _ _ (World.block_lt_of_cell? _ _ this)]; exact this
          have HR : Hid (v k 0 = nbr (segs τ l v 0 n)) := hide (by rw [unhide HN, unhide E, nbr_seq _ _ _ _ _ ⟨t2, hl⟩])
          clear t2 hl h4
          go_wp2
          go_ret
          exact ⟨ret_u32 (unhide HR), (unhide HB).alloc (unhide HB).size _⟩
        · have hl' : l k = 0 := by omega
          have hl2 : ¬ (0 : Int) < (l k : Int) := by omega
          have t1' : (τ k == 1) = false := by simp [t2]
          have HR : Hid (nbr (segs τ l v 0 n) = nbr (segs τ l v (k + 1) (n - (k + 1)))) := hide (by rw [unhide HN, unhide E, nbr_skip _ _ _ _ _ (by omega) (by omega)])
          clear t2 hl h4 hl'
          go_wp2
          go_roundw
          case rel => exact ⟨k + 1, by omega, by go_num, HR, hide ((unhide HB).alloc (unhide HB).size _)⟩
          case measure => simp [intOf]; omega
      · have t2' : (τ k == 2) = false := by simp [t2]
        by_cases t1 : τ k = 1
        · have t1' : (τ k == 1) = true := by simp [t1]
          have HR : Hid (0 = nbr (segs τ l v 0 n)) := hide (by rw [unhide HN, unhide E, nbr_set _ _ _ _ _ t1])
          clear t2 t1 h4
          go_wp2
          go_ret
          exact ⟨ret_u32 (unhide HR), (unhide HB).alloc (unhide HB).size _⟩
        · have t1' : (τ k == 1) = false := by simp [t1]
          have HR : Hid (nbr (segs τ l v 0 n) = nbr (segs τ l v (k + 1) (n - (k + 1)))) := hide (by rw [unhide HN, unhide E, nbr_skip _ _ _ _ _ (by omega) t1])
          clear t2 t1 h4
          go_wp2
          go_roundw
          case rel => exact ⟨k + 1, by omega, by go_num, HR, hide ((unhide HB).alloc (unhide HB).size _)⟩
          case measure => simp [intOf]; omega
    · have hkn : k = n := by omega
      subst hkn
      have HR : Hid (0 = nbr (segs τ l v 0 k)) := hide (by rw [unhide HN, Nat.sub_self]; rfl)
      go_wp2
      go_ret
      exact ⟨ret_u32 (unhide HR), unhide HB⟩

set_option maxRecDepth 100000 in
set_option maxHeartbeats 800000 in
theorem inseq_yes (pb o n c : Nat) (τ : Nat → Int) (β l : Nat → Nat) (v : Nat → Nat → Int) (x : Int) (q : Nat) (w : World) (hn : n ≤ 65536) (hs : Hid (SegsAt w pb o n τ β l v))
    (hq : q < n) (hq1 : Hid (τ q = 2 ∧ 0 < l q ∧ v q 0 = x)) :
    Calls Try.prog 16 #[.slice (some ⟨pb, o, none⟩) n c, .int .u32 x] w fun e w' => e = .returned (.bool true) ∧ w' = w := by
  have hn' : (n : Int) ≤ 65536 := by omega
  go_enter Try.func16, Try.ntmps16
  go_wp2
  go_loop [5] (fun i => ∃ k : Nat, k ≤ q ∧ i = .int .i64 k) (fun i => n - (intOf i).toNat)
  case atStart => exact ⟨0, Nat.zero_le _, rfl⟩
  case round =>
    obtain ⟨k, hk, rfl⟩ := hrel
    have hlt : k < n := by omega
    obtain ⟨h1, h2, h3, h4⟩ := unhide hs k hlt
    have h3' : (l k : Int) ≤ 65536 := by omega
    have H4 := hide h4
    clear h4
    by_cases t2 : τ k = 2
    · have t2' : (τ k != 2) = false := by simp [t2]
      clear t2
      go_wp2
      go_loop [6] (fun j => ∃ m : Nat, m ≤ l k ∧ j = .int .i64 m ∧ Hid (k = q → m = 0)) (fun j => l k - (intOf j).toNat)
      case atStart => exact ⟨0, Nat.zero_le _, rfl, hide fun _ => rfl⟩
      case round =>
        obtain ⟨m, hm, rfl, HM⟩ := hrel
        by_cases hlm : m < l k
        · have h5 := unhide H4 m hlm
          by_cases ex : v k m = x
          · have ex' : (v k m == x) = true := by simp [ex]
            clear ex
            go_wp2
            go_ret
            exact ⟨rfl, rfl⟩
          · have ex' : (v k m == x) = false := by simp [ex]
            have hne : Hid (¬ k = q) := hide fun h => by
              have := unhide HM h
              subst h; subst this
              exact ex (unhide hq1).2.2
            clear ex
            go_wp2
            go_round
            case rel => exact ⟨m + 1, by omega, by go_num, hide fun h => absurd h (unhide hne)⟩
            case measure => simp [intOf]; omega
        · have hne : ¬ k = q := fun h => by
            have h0 := unhide HM h
            subst h
            have := (unhide hq1).2.1
            omega
          have hk' : k + 1 ≤ q := by omega
          clear hne
          go_wp2
          go_round
          case rel => exact ⟨k + 1, hk', by go_num⟩
          case measure => simp [intOf]; omega
    · have t2' : (τ k != 2) = true := by simp [t2]
      have hne : ¬ k = q := fun h => by subst h; exact t2 (unhide hq1).1
      have hk' : k + 1 ≤ q := by omega
      clear t2 hne
      go_wp2
      go_round
      case rel => exact ⟨k + 1, hk', by go_num⟩
      case measure => simp [intOf]; omega
end Go.Proofs.Qxb6002605a
