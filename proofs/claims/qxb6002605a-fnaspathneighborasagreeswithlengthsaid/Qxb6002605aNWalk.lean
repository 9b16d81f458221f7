/- the law's walk -/
import Derived.Test.Qxb6002605aBuild
namespace Go.Proofs.Qxb6002605a
open Go.ChangeShapes Go.WideShapes Go.ChangeAt Go.RowKit
set_option linter.unusedVariables false
set_option linter.unusedSimpArgs false

theorem nbytes_yes (a0 a1 a2 : Option Addr) (n0 c0 n1 c1 n2 c2 : Nat) (sp : Int) (w : World) (h : n0 + n1 + n2 ≤ 1048576) :
    Calls Try.prog 14 #[.slice a0 n0 c0, .slice a1 n1 c1, .slice a2 n2 c2, .int .i64 sp] w fun e w' => e = .returned (.bool true) ∧ w' = w := by
  have h1 : (n0 : Int) + (n1 : Int) + (n2 : Int) ≤ 1048576 := by omega
  have h2 : (n0 : Int) ≤ 1048576 := by omega
  have h3 : (n1 : Int) ≤ 1048576 := by omega
  have h4 : (n2 : Int) ≤ 1048576 := by omega
  have h5 : (n0 : Int) + (n1 : Int) ≤ 1048576 := by omega
  go_enter Try.func14, Try.ntmps14
  go_wp2
  go_ret
  exact ⟨rfl, rfl⟩
theorem nbytes_no (a0 a1 a2 : Option Addr) (n0 c0 n1 c1 n2 c2 : Nat) (sp : Int) (w : World) (w0 : n0 ≤ maxLen) (w1 : n1 ≤ maxLen) (w2 : n2 ≤ maxLen) (h : ¬ n0 + n1 + n2 ≤ 1048576) :
    Calls Try.prog 14 #[.slice a0 n0 c0, .slice a1 n1 c1, .slice a2 n2 c2, .int .i64 sp] w fun e w' => e = .returned (.bool false) ∧ w' = w := by
  unfold maxLen at w0 w1 w2
  by_cases h1 : (1048576 : Int) < (n0 : Int)
  · go_enter Try.func14, Try.ntmps14
    go_wp2
    go_ret
    exact ⟨rfl, rfl⟩
  · by_cases h2 : (1048576 : Int) < (n1 : Int)
    · go_enter Try.func14, Try.ntmps14
      go_wp2
      go_ret
      exact ⟨rfl, rfl⟩
    · by_cases h3 : (1048576 : Int) < (n0 : Int) + (n1 : Int)
      · go_enter Try.func14, Try.ntmps14
        go_wp2
        go_ret
        exact ⟨rfl, rfl⟩
      · by_cases h4 : (1048576 : Int) < (n2 : Int)
        · go_enter Try.func14, Try.ntmps14
          go_wp2
          go_ret
          exact ⟨rfl, rfl⟩
        · have h5 : (1048576 : Int) < (n0 : Int) + (n1 : Int) + (n2 : Int) := by omega
          go_enter Try.func14, Try.ntmps14
          go_wp2
          go_ret
          exact ⟨rfl, rfl⟩
theorem segs_shift (τ : Nat → Int) (l : Nat → Nat) (v : Nat → Nat → Int) (s m : Nat) : segs (fun i => τ (s + i)) (fun i => l (s + i)) (fun i => v (s + i)) 0 m = segs τ l v s m := by
  unfold segs
  apply List.map_congr_left
  intro j _
  show (τ (s + (0 + j)), l (s + (0 + j)), v (s + (0 + j)) 0) = _
  rw [Nat.zero_add]
/-- what the walk is told of an argument -/
def Arg (kd : IntKind) (w : World) (a : Option Addr) (n c : Nat) (f : Nat → Int) : Prop :=
  (a = none ∧ n = 0 ∧ c = 0) ∨ ∃ b o s, a = some ⟨b, o, s⟩ ∧ (0 < n → s = none) ∧ ∀ i, i < n → w.cell? ⟨b, o + i, none⟩ = some (.int kd (f i))
theorem Arg.below {kd : IntKind} {B : Nat} {w w' : World} {a : Option Addr} {n c : Nat} {f : Nat → Int} (h : Arg kd w a n c f) (hb : Below B w w') (hB : w.heap.size ≤ B) : Arg kd w' a n c f := by
  rcases h with h | ⟨b, o, s, h1, h2, h3⟩
  · exact Or.inl h
  · refine Or.inr ⟨b, o, s, h1, h2, fun i hi => ?_⟩
    have h5 := h3 i hi
    rw [hb.cell (p := ⟨_, _, _⟩) (Nat.lt_of_lt_of_le (World.block_lt_of_cell? _ _ h5) hB)]; exact h5

set_option maxRecDepth 100000 in
set_option maxHeartbeats 6400000 in
theorem nwalk_in (a0 a1 a2 : Option Addr) (n0 c0 n1 c1 n2 c2 s : Nat) (f0 f1 f2 : Nat → Int) (w : World) (l0 : n0 ≤ 65536) (l1 : n1 ≤ 65536) (l2 : n2 ≤ 65536) (l3 : n0 + 2 * n1 + 8 * n2 ≤ 1048576) (hs : s ≤ n0)
    (h0 : Hid (Arg .u8 w a0 n0 c0 f0)) (h1 : Hid (Arg .u16 w a1 n1 c1 f1)) (h2 : Hid (Arg .u32 w a2 n2 c2 f2)) (hb1 : Hid (∀ i, i < n1 → 0 ≤ f1 i ∧ f1 i ≤ 65535)) :
    Calls Try.prog 4 #[.slice a0 n0 c0, .slice a1 n1 c1, .slice a2 n2 c2, .int .i64 (s : Int)] w fun e w' => e = .returned (.bool true) ∧ Below w.heap.size w w' := by
  have l0' : (n0 : Int) ≤ 65536 := by omega
  have l1' : (n1 : Int) ≤ 65536 := by omega
  have l2' : (n2 : Int) ≤ 65536 := by omega
  have l3' : (n0 : Int) + 2 * (n1 : Int) + 8 * (n2 : Int) ≤ 1048576 := by omega
  have ls : (s : Int) ≤ (n0 : Int) := by omega
  have ls0 : (0 : Int) ≤ (s : Int) := by omega
  have Y := hide (nbytes_yes a0 a1 a2 n0 c0 n1 c1 n2 c2 (s : Int) w (by omega))
  go_enter Try.func4, Try.ntmps4
  go_wp2_with fail
  refine (unhide Y).mono ?_
  rintro e w' ⟨rfl, rfl⟩
  go_wp2_with fail
  refine (clone_22 a0 n0 c0 f0 _ l0 h0).mono ?_
  rintro e w1 ⟨b0, rfl, hs1, B1⟩
  have h1' : Hid (Arg .u16 w1 a1 n1 c1 f1) := hide ((unhide h1).below B1 (Nat.le_refl _))
  have h2' : Hid (Arg .u32 w1 a2 n2 c2 f2) := hide ((unhide h2).below B1 (Nat.le_refl _))
  have S1 := hide hs1
  have HB1 := hide B1
  clear hs1 B1
  go_wp2_with fail
  refine (clone_23 a1 n1 c1 f1 _ l1 h1').mono ?_
  rintro e w2 ⟨b1, rfl, hs2, B2⟩
  have h2'' : Hid (Arg .u32 w2 a2 n2 c2 f2) := hide ((unhide h2').below B2 (Nat.le_refl _))
  have S1' : Hid (Src .u8 w2 b0 n0 f0) := hide ((unhide S1).below B2 (Nat.le_refl _))
  have S2 := hide hs2
  have HB2 : Hid (Below w'.heap.size w' w2) := hide ((unhide HB1).trans (B2.mono (unhide HB1).size))
  clear hs2 B2
  go_wp2_with fail
  refine (clone_24 a2 n2 c2 f2 _ l2 h2'').mono ?_
  rintro e w3 ⟨b2, rfl, hs3, B3⟩
  have S1'' : Hid (Src .u8 w3 b0 n0 f0) := hide ((unhide S1').below B3 (Nat.le_refl _))
  have S2' : Hid (Src .u16 w3 b1 n1 f1) := hide ((unhide S2).below B3 (Nat.le_refl _))
  have S3 := hide hs3
  have HB3 : Hid (Below w'.heap.size w' w3) := hide ((unhide HB2).trans (B3.mono (unhide HB2).size))
  clear hs3 B3
  go_wp2_with fail
  refine (build_any b0 b1 b2 n0 n1 n2 f0 f1 f2 _ l0 l1 l2 S1'' S2' S3 hb1).mono ?_
  rintro e w4 ⟨rfl, ⟨τ, β, l, v, hS⟩, B4⟩
  have HB4 : Hid (Below w'.heap.size w' w4) := hide ((unhide HB3).trans (B4.mono (unhide HB3).size))
  have HS := hide hS
  clear hS B4 h1' h2' h2'' S1 S1' S1'' S2 S2' S3 HB1 HB2 HB3
  generalize w3.heap.size = pb at *
  have CN : Hid (∀ W, SegsAt W pb 0 n0 τ β l v → Calls Try.prog 15 #[.slice (some ⟨pb, 0, none⟩) n0 n0] W fun e w' => e = .returned (.int .u32 (nbr (segs τ l v 0 n0))) ∧ Below W.heap.size W w') := hide fun W h => neighbor_any pb 0 n0 n0 τ β l v W l0 (hide h)
  have CL : Hid (∀ W, SegsAt W pb 0 n0 τ β l v → Calls Try.prog 12 #[.slice (some ⟨pb, 0, none⟩) n0 n0] W fun e w' => e = .returned (.int .i64 (plen (segs τ l v 0 n0))) ∧ Below W.heap.size W w') := hide fun W h => length_any pb 0 n0 n0 τ β l v W l0 (hide h)
  have CNp : Hid (∀ W, SegsAt W pb 0 n0 τ β l v → Calls Try.prog 15 #[.slice (some ⟨pb, 0, none⟩) s n0] W fun e w' => e = .returned (.int .u32 (nbr (segs τ l v 0 s))) ∧ Below W.heap.size W w') := hide fun W h => neighbor_any pb 0 s n0 τ β l v W (by omega) (hide fun i hi => h i (by omega))
  have CLp : Hid (∀ W, SegsAt W pb 0 n0 τ β l v → Calls Try.prog 12 #[.slice (some ⟨pb, 0, none⟩) s n0] W fun e w' => e = .returned (.int .i64 (plen (segs τ l v 0 s))) ∧ Below W.heap.size W w') := hide fun W h => length_any pb 0 s n0 τ β l v W (by omega) (hide fun i hi => h i (by omega))
  have CNq : Hid (∀ W qo, (0 < n0 - s → qo = s * 2) → SegsAt W pb 0 n0 τ β l v → Calls Try.prog 15 #[.slice (some ⟨pb, qo, none⟩) (n0 - s) (n0 - s)] W fun e w' => e = .returned (.int .u32 (nbr (segs τ l v s (n0 - s)))) ∧ Below W.heap.size W w') := hide fun W qo hq h => by
    have := neighbor_any pb qo (n0 - s) (n0 - s) (fun i => τ (s + i)) (fun i => β (s + i)) (fun i => l (s + i)) (fun i => v (s + i)) W (by omega) (hide (by
      by_cases hz : 0 < n0 - s
      · rw [hq hz]
        have := h.piece s (n0 - s) (by omega)
        rwa [Nat.zero_add] at this
      · exact fun i hi => absurd hi (by omega)))
    rw [segs_shift] at this
    exact this
  have hsplit : segs τ l v 0 n0 = segs τ l v 0 s ++ segs τ l v s (n0 - s) := by
    have := segs_split τ l v s 0 (n0 - s)
    rwa [show s + (n0 - s) = n0 from by omega, Nat.zero_add] at this
  have F1 : Hid (¬ nbr (segs τ l v 0 n0) = 0 → ∃ q, q < n0 ∧ τ q = 2 ∧ 0 < l q ∧ v q 0 = nbr (segs τ l v 0 n0)) := hide fun hne => by
    obtain ⟨x, hx, q1, q2, q3⟩ := nbr_in _ hne
    unfold segs at hx
    obtain ⟨i, hi, rfl⟩ := List.mem_map.1 hx
    have hi' : i < n0 := by simpa using hi
    simp only [Nat.zero_add] at q1 q2 q3
    exact ⟨i, hi', q1, q2, q3⟩
  have F2 : Hid (¬ nbr (segs τ l v 0 n0) = 0 → 1 ≤ plen (segs τ l v 0 n0)) := hide (nbr_long _)
  have F3 : Hid (plen (segs τ l v 0 s) = 0 → nbr (segs τ l v 0 s) = 0 ∧ nbr (segs τ l v 0 n0) = nbr (segs τ l v s (n0 - s))) := hide (by rw [hsplit]; exact nbr_zero _ _)
  have F4 : Hid (¬ nbr (segs τ l v 0 s) = 0 → nbr (segs τ l v 0 n0) = nbr (segs τ l v 0 s)) := hide (by rw [hsplit]; exact nbr_first _ _)
  have CI : Hid (¬ nbr (segs τ l v 0 n0) = 0 → ∀ W, SegsAt W pb 0 n0 τ β l v → Calls Try.prog 16 #[.slice (some ⟨pb, 0, none⟩) n0 n0, .int .u32 (nbr (segs τ l v 0 n0))] W fun e w' => e = .returned (.bool true) ∧ w' = W) := hide fun hne W h => by
    obtain ⟨q, q0, q1, q2, q3⟩ := unhide F1 hne
    exact inseq_yes pb 0 n0 n0 τ β l v _ q W l0 (hide h) q0 (hide ⟨q1, q2, q3⟩)
  clear hsplit F1
  generalize nbr (segs τ l v 0 n0) = N at *
  generalize plen (segs τ l v 0 n0) = PL at *
  generalize nbr (segs τ l v 0 s) = NP at *
  generalize plen (segs τ l v 0 s) = PP at *
  generalize nbr (segs τ l v s (n0 - s)) = NQ at *
  by_cases hns : n0 = s
  · subst hns
    have CNq' : Hid (∀ W qo, (0 < 0 → qo = 0) → SegsAt W pb 0 n0 τ β l v → Calls Try.prog 15 #[.slice (some ⟨pb, qo, none⟩) 0 0] W fun e w' => e = .returned (.int .u32 NQ) ∧ Below W.heap.size W w') := hide fun W qo hq h => by
      have := unhide CNq W qo (fun h => absurd h (by omega)) h
      rw [Nat.sub_self] at this
      exact this
    clear CNq
    have CNq := CNq'
    clear CNq'
    have Hqo : Hid (0 < 0 → 0 = 0) := hide fun _ => rfl
    go_wp2_with fail
    by_cases nz : N = 0
    · have c1' : (N != 0) = false := by simp [nz]
      by_cases pz : PP = 0
      · have c2' : (PP == 0) = true := by simp [pz]
        have c3' : (NP != 0) = false := by simp [(unhide F3 pz).1]
        have c4' : (N != NQ) = false := by simp [(unhide F3 pz).2]
        clear nz pz
        have HSw4 := HS
        have HBw4 := HB4
        refine (unhide CN _ (unhide HSw4)).mono ?_
        rintro e w5 ⟨rfl, B⟩
        have HSw5 : Hid (SegsAt w5 pb 0 n0 τ β l v) := hide ((unhide HSw4).below B (Nat.le_refl _))
        have HBw5 : Hid (Below w'.heap.size w' w5) := hide ((unhide HBw4).trans (B.mono (unhide HBw4).size))
        clear B
        go_wp2_with fail
        refine (unhide CLp _ (unhide HSw5)).mono ?_
        rintro e w6 ⟨rfl, B⟩
        have HSw6 : Hid (SegsAt w6 pb 0 n0 τ β l v) := hide ((unhide HSw5).below B (Nat.le_refl _))
        have HBw6 : Hid (Below w'.heap.size w' w6) := hide ((unhide HBw5).trans (B.mono (unhide HBw5).size))
        clear B
        go_wp2_with fail
        refine (unhide CNp _ (unhide HSw6)).mono ?_
        rintro e w7 ⟨rfl, B⟩
        have HSw7 : Hid (SegsAt w7 pb 0 n0 τ β l v) := hide ((unhide HSw6).below B (Nat.le_refl _))
        have HBw7 : Hid (Below w'.heap.size w' w7) := hide ((unhide HBw6).trans (B.mono (unhide HBw6).size))
        clear B
        go_wp2_with fail
        refine (unhide CNq _ 0 (fun _ => rfl) (unhide HSw7)).mono ?_
        rintro e w8 ⟨rfl, B⟩
        have HSw8 : Hid (SegsAt w8 pb 0 n0 τ β l v) := hide ((unhide HSw7).below B (Nat.le_refl _))
        have HBw8 : Hid (Below w'.heap.size w' w8) := hide ((unhide HBw7).trans (B.mono (unhide HBw7).size))
        clear B
        go_wp2_with fail
        refine (unhide CNp _ (unhide HSw8)).mono ?_
        rintro e w9 ⟨rfl, B⟩
        have HSw9 : Hid (SegsAt w9 pb 0 n0 τ β l v) := hide ((unhide HSw8).below B (Nat.le_refl _))
        have HBw9 : Hid (Below w'.heap.size w' w9) := hide ((unhide HBw8).trans (B.mono (unhide HBw8).size))
        clear B
        go_wp2_with fail
        go_ret
        exact ⟨rfl, unhide HBw9⟩
      · have c2' : (PP == 0) = false := by simp [pz]
        have npz : NP = 0 := by
          by_cases e : NP = 0
          · exact e
          · have := unhide F4 e; omega
        have c3' : (NP != 0) = false := by simp [npz]
        clear nz pz npz
        have HSw4 := HS
        have HBw4 := HB4
        refine (unhide CN _ (unhide HSw4)).mono ?_
        rintro e w5 ⟨rfl, B⟩
        have HSw5 : Hid (SegsAt w5 pb 0 n0 τ β l v) := hide ((unhide HSw4).below B (Nat.le_refl _))
        have HBw5 : Hid (Below w'.heap.size w' w5) := hide ((unhide HBw4).trans (B.mono (unhide HBw4).size))
        clear B
        go_wp2_with fail
        refine (unhide CLp _ (unhide HSw5)).mono ?_
        rintro e w6 ⟨rfl, B⟩
        have HSw6 : Hid (SegsAt w6 pb 0 n0 τ β l v) := hide ((unhide HSw5).below B (Nat.le_refl _))
        have HBw6 : Hid (Below w'.heap.size w' w6) := hide ((unhide HBw5).trans (B.mono (unhide HBw5).size))
        clear B
        go_wp2_with fail
        refine (unhide CNp _ (unhide HSw6)).mono ?_
        rintro e w7 ⟨rfl, B⟩
        have HSw7 : Hid (SegsAt w7 pb 0 n0 τ β l v) := hide ((unhide HSw6).below B (Nat.le_refl _))
        have HBw7 : Hid (Below w'.heap.size w' w7) := hide ((unhide HBw6).trans (B.mono (unhide HBw6).size))
        clear B
        go_wp2_with fail
        go_ret
        exact ⟨rfl, unhide HBw7⟩
    · have c1' : (N != 0) = true := by simp [nz]
      have HNZ := hide nz
      have c5' : 1 ≤ PL := unhide F2 nz
      by_cases pz : PP = 0
      · have c2' : (PP == 0) = true := by simp [pz]
        have c3' : (NP != 0) = false := by simp [(unhide F3 pz).1]
        have c4' : (N != NQ) = false := by simp [(unhide F3 pz).2]
        clear nz pz
        have HSw4 := HS
        have HBw4 := HB4
        refine (unhide CN _ (unhide HSw4)).mono ?_
        rintro e w5 ⟨rfl, B⟩
        have HSw5 : Hid (SegsAt w5 pb 0 n0 τ β l v) := hide ((unhide HSw4).below B (Nat.le_refl _))
        have HBw5 : Hid (Below w'.heap.size w' w5) := hide ((unhide HBw4).trans (B.mono (unhide HBw4).size))
        clear B
        go_wp2_with fail
        refine (unhide CI (unhide HNZ) _ (unhide HSw5)).mono ?_
        rintro e w6 ⟨rfl, hw⟩
        rw [hw]
        clear hw
        go_wp2_with fail
        refine (unhide CL _ (unhide HSw5)).mono ?_
        rintro e w7 ⟨rfl, B⟩
        have HSw7 : Hid (SegsAt w7 pb 0 n0 τ β l v) := hide ((unhide HSw5).below B (Nat.le_refl _))
        have HBw7 : Hid (Below w'.heap.size w' w7) := hide ((unhide HBw5).trans (B.mono (unhide HBw5).size))
        clear B
        go_wp2_with fail
        refine (unhide CLp _ (unhide HSw7)).mono ?_
        rintro e w8 ⟨rfl, B⟩
        have HSw8 : Hid (SegsAt w8 pb 0 n0 τ β l v) := hide ((unhide HSw7).below B (Nat.le_refl _))
        have HBw8 : Hid (Below w'.heap.size w' w8) := hide ((unhide HBw7).trans (B.mono (unhide HBw7).size))
        clear B
        go_wp2_with fail
        refine (unhide CNp _ (unhide HSw8)).mono ?_
        rintro e w9 ⟨rfl, B⟩
        have HSw9 : Hid (SegsAt w9 pb 0 n0 τ β l v) := hide ((unhide HSw8).below B (Nat.le_refl _))
        have HBw9 : Hid (Below w'.heap.size w' w9) := hide ((unhide HBw8).trans (B.mono (unhide HBw8).size))
        clear B
        go_wp2_with fail
        refine (unhide CNq _ 0 (fun _ => rfl) (unhide HSw9)).mono ?_
        rintro e w10 ⟨rfl, B⟩
        have HSw10 : Hid (SegsAt w10 pb 0 n0 τ β l v) := hide ((unhide HSw9).below B (Nat.le_refl _))
        have HBw10 : Hid (Below w'.heap.size w' w10) := hide ((unhide HBw9).trans (B.mono (unhide HBw9).size))
        clear B
        go_wp2_with fail
        refine (unhide CNp _ (unhide HSw10)).mono ?_
        rintro e w11 ⟨rfl, B⟩
        have HSw11 : Hid (SegsAt w11 pb 0 n0 τ β l v) := hide ((unhide HSw10).below B (Nat.le_refl _))
        have HBw11 : Hid (Below w'.heap.size w' w11) := hide ((unhide HBw10).trans (B.mono (unhide HBw10).size))
        clear B
        go_wp2_with fail
        go_ret
        exact ⟨rfl, unhide HBw11⟩
      · have c2' : (PP == 0) = false := by simp [pz]
        by_cases npz : NP = 0
        · have c3' : (NP != 0) = false := by simp [npz]
          clear nz pz npz
          have HSw4 := HS
          have HBw4 := HB4
          refine (unhide CN _ (unhide HSw4)).mono ?_
          rintro e w5 ⟨rfl, B⟩
          have HSw5 : Hid (SegsAt w5 pb 0 n0 τ β l v) := hide ((unhide HSw4).below B (Nat.le_refl _))
          have HBw5 : Hid (Below w'.heap.size w' w5) := hide ((unhide HBw4).trans (B.mono (unhide HBw4).size))
          clear B
          go_wp2_with fail
          refine (unhide CI (unhide HNZ) _ (unhide HSw5)).mono ?_
          rintro e w6 ⟨rfl, hw⟩
          rw [hw]
          clear hw
          go_wp2_with fail
          refine (unhide CL _ (unhide HSw5)).mono ?_
          rintro e w7 ⟨rfl, B⟩
          have HSw7 : Hid (SegsAt w7 pb 0 n0 τ β l v) := hide ((unhide HSw5).below B (Nat.le_refl _))
          have HBw7 : Hid (Below w'.heap.size w' w7) := hide ((unhide HBw5).trans (B.mono (unhide HBw5).size))
          clear B
          go_wp2_with fail
          refine (unhide CLp _ (unhide HSw7)).mono ?_
          rintro e w8 ⟨rfl, B⟩
          have HSw8 : Hid (SegsAt w8 pb 0 n0 τ β l v) := hide ((unhide HSw7).below B (Nat.le_refl _))
          have HBw8 : Hid (Below w'.heap.size w' w8) := hide ((unhide HBw7).trans (B.mono (unhide HBw7).size))
          clear B
          go_wp2_with fail
          refine (unhide CNp _ (unhide HSw8)).mono ?_
          rintro e w9 ⟨rfl, B⟩
          have HSw9 : Hid (SegsAt w9 pb 0 n0 τ β l v) := hide ((unhide HSw8).below B (Nat.le_refl _))
          have HBw9 : Hid (Below w'.heap.size w' w9) := hide ((unhide HBw8).trans (B.mono (unhide HBw8).size))
          clear B
          go_wp2_with fail
          go_ret
          exact ⟨rfl, unhide HBw9⟩
        · have c3' : (NP != 0) = true := by simp [npz]
          have c4' : (N != NP) = false := by simp [unhide F4 npz]
          clear nz pz npz
          have HSw4 := HS
          have HBw4 := HB4
          refine (unhide CN _ (unhide HSw4)).mono ?_
          rintro e w5 ⟨rfl, B⟩
          have HSw5 : Hid (SegsAt w5 pb 0 n0 τ β l v) := hide ((unhide HSw4).below B (Nat.le_refl _))
          have HBw5 : Hid (Below w'.heap.size w' w5) := hide ((unhide HBw4).trans (B.mono (unhide HBw4).size))
          clear B
          go_wp2_with fail
          refine (unhide CI (unhide HNZ) _ (unhide HSw5)).mono ?_
          rintro e w6 ⟨rfl, hw⟩
          rw [hw]
          clear hw
          go_wp2_with fail
          refine (unhide CL _ (unhide HSw5)).mono ?_
          rintro e w7 ⟨rfl, B⟩
          have HSw7 : Hid (SegsAt w7 pb 0 n0 τ β l v) := hide ((unhide HSw5).below B (Nat.le_refl _))
          have HBw7 : Hid (Below w'.heap.size w' w7) := hide ((unhide HBw5).trans (B.mono (unhide HBw5).size))
          clear B
          go_wp2_with fail
          refine (unhide CLp _ (unhide HSw7)).mono ?_
          rintro e w8 ⟨rfl, B⟩
          have HSw8 : Hid (SegsAt w8 pb 0 n0 τ β l v) := hide ((unhide HSw7).below B (Nat.le_refl _))
          have HBw8 : Hid (Below w'.heap.size w' w8) := hide ((unhide HBw7).trans (B.mono (unhide HBw7).size))
          clear B
          go_wp2_with fail
          refine (unhide CNp _ (unhide HSw8)).mono ?_
          rintro e w9 ⟨rfl, B⟩
          have HSw9 : Hid (SegsAt w9 pb 0 n0 τ β l v) := hide ((unhide HSw8).below B (Nat.le_refl _))
          have HBw9 : Hid (Below w'.heap.size w' w9) := hide ((unhide HBw8).trans (B.mono (unhide HBw8).size))
          clear B
          go_wp2_with fail
          go_ret
          exact ⟨rfl, unhide HBw9⟩

  · have Hqo : Hid (0 < n0 - s → s * 2 = s * 2) := hide fun _ => rfl
    go_wp2_with fail
    by_cases nz : N = 0
    · have c1' : (N != 0) = false := by simp [nz]
      by_cases pz : PP = 0
      · have c2' : (PP == 0) = true := by simp [pz]
        have c3' : (NP != 0) = false := by simp [(unhide F3 pz).1]
        have c4' : (N != NQ) = false := by simp [(unhide F3 pz).2]
        clear nz pz
        have HSw4 := HS
        have HBw4 := HB4
        refine (unhide CN _ (unhide HSw4)).mono ?_
        rintro e w5 ⟨rfl, B⟩
        have HSw5 : Hid (SegsAt w5 pb 0 n0 τ β l v) := hide ((unhide HSw4).below B (Nat.le_refl _))
        have HBw5 : Hid (Below w'.heap.size w' w5) := hide ((unhide HBw4).trans (B.mono (unhide HBw4).size))
        clear B
        go_wp2_with fail
        refine (unhide CLp _ (unhide HSw5)).mono ?_
        rintro e w6 ⟨rfl, B⟩
        have HSw6 : Hid (SegsAt w6 pb 0 n0 τ β l v) := hide ((unhide HSw5).below B (Nat.le_refl _))
        have HBw6 : Hid (Below w'.heap.size w' w6) := hide ((unhide HBw5).trans (B.mono (unhide HBw5).size))
        clear B
        go_wp2_with fail
        refine (unhide CNp _ (unhide HSw6)).mono ?_
        rintro e w7 ⟨rfl, B⟩
        have HSw7 : Hid (SegsAt w7 pb 0 n0 τ β l v) := hide ((unhide HSw6).below B (Nat.le_refl _))
        have HBw7 : Hid (Below w'.heap.size w' w7) := hide ((unhide HBw6).trans (B.mono (unhide HBw6).size))
        clear B
        go_wp2_with fail
        refine (unhide CNq _ (s * 2) (fun _ => rfl) (unhide HSw7)).mono ?_
        rintro e w8 ⟨rfl, B⟩
        have HSw8 : Hid (SegsAt w8 pb 0 n0 τ β l v) := hide ((unhide HSw7).below B (Nat.le_refl _))
        have HBw8 : Hid (Below w'.heap.size w' w8) := hide ((unhide HBw7).trans (B.mono (unhide HBw7).size))
        clear B
        go_wp2_with fail
        refine (unhide CNp _ (unhide HSw8)).mono ?_
        rintro e w9 ⟨rfl, B⟩
        have HSw9 : Hid (SegsAt w9 pb 0 n0 τ β l v) := hide ((unhide HSw8).below B (Nat.le_refl _))
        have HBw9 : Hid (Below w'.heap.size w' w9) := hide ((unhide HBw8).trans (B.mono (unhide HBw8).size))
        clear B
        go_wp2_with fail
        go_ret
        exact ⟨rfl, unhide HBw9⟩
      · have c2' : (PP == 0) = false := by simp [pz]
        have npz : NP = 0 := by
          by_cases e : NP = 0
          · exact e
          · have := unhide F4 e; omega
        have c3' : (NP != 0) = false := by simp [npz]
        clear nz pz npz
        have HSw4 := HS
        have HBw4 := HB4
        refine (unhide CN _ (unhide HSw4)).mono ?_
        rintro e w5 ⟨rfl, B⟩
        have HSw5 : Hid (SegsAt w5 pb 0 n0 τ β l v) := hide ((unhide HSw4).below B (Nat.le_refl _))
        have HBw5 : Hid (Below w'.heap.size w' w5) := hide ((unhide HBw4).trans (B.mono (unhide HBw4).size))
        clear B
        go_wp2_with fail
        refine (unhide CLp _ (unhide HSw5)).mono ?_
        rintro e w6 ⟨rfl, B⟩
        have HSw6 : Hid (SegsAt w6 pb 0 n0 τ β l v) := hide ((unhide HSw5).below B (Nat.le_refl _))
        have HBw6 : Hid (Below w'.heap.size w' w6) := hide ((unhide HBw5).trans (B.mono (unhide HBw5).size))
        clear B
        go_wp2_with fail
        refine (unhide CNp _ (unhide HSw6)).mono ?_
        rintro e w7 ⟨rfl, B⟩
        have HSw7 : Hid (SegsAt w7 pb 0 n0 τ β l v) := hide ((unhide HSw6).below B (Nat.le_refl _))
        have HBw7 : Hid (Below w'.heap.size w' w7) := hide ((unhide HBw6).trans (B.mono (unhide HBw6).size))
        clear B
        go_wp2_with fail
        go_ret
        exact ⟨rfl, unhide HBw7⟩
    · have c1' : (N != 0) = true := by simp [nz]
      have HNZ := hide nz
      have c5' : 1 ≤ PL := unhide F2 nz
      by_cases pz : PP = 0
      · have c2' : (PP == 0) = true := by simp [pz]
        have c3' : (NP != 0) = false := by simp [(unhide F3 pz).1]
        have c4' : (N != NQ) = false := by simp [(unhide F3 pz).2]
        clear nz pz
        have HSw4 := HS
        have HBw4 := HB4
        refine (unhide CN _ (unhide HSw4)).mono ?_
        rintro e w5 ⟨rfl, B⟩
        have HSw5 : Hid (SegsAt w5 pb 0 n0 τ β l v) := hide ((unhide HSw4).below B (Nat.le_refl _))
        have HBw5 : Hid (Below w'.heap.size w' w5) := hide ((unhide HBw4).trans (B.mono (unhide HBw4).size))
        clear B
        go_wp2_with fail
        refine (unhide CI (unhide HNZ) _ (unhide HSw5)).mono ?_
        rintro e w6 ⟨rfl, hw⟩
        rw [hw]
        clear hw
        go_wp2_with fail
        refine (unhide CL _ (unhide HSw5)).mono ?_
        rintro e w7 ⟨rfl, B⟩
        have HSw7 : Hid (SegsAt w7 pb 0 n0 τ β l v) := hide ((unhide HSw5).below B (Nat.le_refl _))
        have HBw7 : Hid (Below w'.heap.size w' w7) := hide ((unhide HBw5).trans (B.mono (unhide HBw5).size))
        clear B
        go_wp2_with fail
        refine (unhide CLp _ (unhide HSw7)).mono ?_
        rintro e w8 ⟨rfl, B⟩
        have HSw8 : Hid (SegsAt w8 pb 0 n0 τ β l v) := hide ((unhide HSw7).below B (Nat.le_refl _))
        have HBw8 : Hid (Below w'.heap.size w' w8) := hide ((unhide HBw7).trans (B.mono (unhide HBw7).size))
        clear B
        go_wp2_with fail
        refine (unhide CNp _ (unhide HSw8)).mono ?_
        rintro e w9 ⟨rfl, B⟩
        have HSw9 : Hid (SegsAt w9 pb 0 n0 τ β l v) := hide ((unhide HSw8).below B (Nat.le_refl _))
        have HBw9 : Hid (Below w'.heap.size w' w9) := hide ((unhide HBw8).trans (B.mono (unhide HBw8).size))
        clear B
        go_wp2_with fail
        refine (unhide CNq _ (s * 2) (fun _ => rfl) (unhide HSw9)).mono ?_
        rintro e w10 ⟨rfl, B⟩
        have HSw10 : Hid (SegsAt w10 pb 0 n0 τ β l v) := hide ((unhide HSw9).below B (Nat.le_refl _))
        have HBw10 : Hid (Below w'.heap.size w' w10) := hide ((unhide HBw9).trans (B.mono (unhide HBw9).size))
        clear B
        go_wp2_with fail
        refine (unhide CNp _ (unhide HSw10)).mono ?_
        rintro e w11 ⟨rfl, B⟩
        have HSw11 : Hid (SegsAt w11 pb 0 n0 τ β l v) := hide ((unhide HSw10).below B (Nat.le_refl _))
        have HBw11 : Hid (Below w'.heap.size w' w11) := hide ((unhide HBw10).trans (B.mono (unhide HBw10).size))
        clear B
        go_wp2_with fail
        go_ret
        exact ⟨rfl, unhide HBw11⟩
      · have c2' : (PP == 0) = false := by simp [pz]
        by_cases npz : NP = 0
        · have c3' : (NP != 0) = false := by simp [npz]
          clear nz pz npz
          have HSw4 := HS
          have HBw4 := HB4
          refine (unhide CN _ (unhide HSw4)).mono ?_
          rintro e w5 ⟨rfl, B⟩
          have HSw5 : Hid (SegsAt w5 pb 0 n0 τ β l v) := hide ((unhide HSw4).below B (Nat.le_refl _))
          have HBw5 : Hid (Below w'.heap.size w' w5) := hide ((unhide HBw4).trans (B.mono (unhide HBw4).size))
          clear B
          go_wp2_with fail
          refine (unhide CI (unhide HNZ) _ (unhide HSw5)).mono ?_
          rintro e w6 ⟨rfl, hw⟩
          rw [hw]
          clear hw
          go_wp2_with fail
          refine (unhide CL _ (unhide HSw5)).mono ?_
          rintro e w7 ⟨rfl, B⟩
          have HSw7 : Hid (SegsAt w7 pb 0 n0 τ β l v) := hide ((unhide HSw5).below B (Nat.le_refl _))
          have HBw7 : Hid (Below w'.heap.size w' w7) := hide ((unhide HBw5).trans (B.mono (unhide HBw5).size))
          clear B
          go_wp2_with fail
          refine (unhide CLp _ (unhide HSw7)).mono ?_
          rintro e w8 ⟨rfl, B⟩
          have HSw8 : Hid (SegsAt w8 pb 0 n0 τ β l v) := hide ((unhide HSw7).below B (Nat.le_refl _))
          have HBw8 : Hid (Below w'.heap.size w' w8) := hide ((unhide HBw7).trans (B.mono (unhide HBw7).size))
          clear B
          go_wp2_with fail
          refine (unhide CNp _ (unhide HSw8)).mono ?_
          rintro e w9 ⟨rfl, B⟩
          have HSw9 : Hid (SegsAt w9 pb 0 n0 τ β l v) := hide ((unhide HSw8).below B (Nat.le_refl _))
          have HBw9 : Hid (Below w'.heap.size w' w9) := hide ((unhide HBw8).trans (B.mono (unhide HBw8).size))
          clear B
          go_wp2_with fail
          go_ret
          exact ⟨rfl, unhide HBw9⟩
        · have c3' : (NP != 0) = true := by simp [npz]
          have c4' : (N != NP) = false := by simp [unhide F4 npz]
          clear nz pz npz
          have HSw4 := HS
          have HBw4 := HB4
          refine (unhide CN _ (unhide HSw4)).mono ?_
          rintro e w5 ⟨rfl, B⟩
          have HSw5 : Hid (SegsAt w5 pb 0 n0 τ β l v) := hide ((unhide HSw4).below B (Nat.le_refl _))
          have HBw5 : Hid (Below w'.heap.size w' w5) := hide ((unhide HBw4).trans (B.mono (unhide HBw4).size))
          clear B
          go_wp2_with fail
          refine (unhide CI (unhide HNZ) _ (unhide HSw5)).mono ?_
          rintro e w6 ⟨rfl, hw⟩
          rw [hw]
          clear hw
          go_wp2_with fail
          refine (unhide CL _ (unhide HSw5)).mono ?_
          rintro e w7 ⟨rfl, B⟩
          have HSw7 : Hid (SegsAt w7 pb 0 n0 τ β l v) := hide ((unhide HSw5).below B (Nat.le_refl _))
          have HBw7 : Hid (Below w'.heap.size w' w7) := hide ((unhide HBw5).trans (B.mono (unhide HBw5).size))
          clear B
          go_wp2_with fail
          refine (unhide CLp _ (unhide HSw7)).mono ?_
          rintro e w8 ⟨rfl, B⟩
          have HSw8 : Hid (SegsAt w8 pb 0 n0 τ β l v) := hide ((unhide HSw7).below B (Nat.le_refl _))
          have HBw8 : Hid (Below w'.heap.size w' w8) := hide ((unhide HBw7).trans (B.mono (unhide HBw7).size))
          clear B
          go_wp2_with fail
          refine (unhide CNp _ (unhide HSw8)).mono ?_
          rintro e w9 ⟨rfl, B⟩
          have HSw9 : Hid (SegsAt w9 pb 0 n0 τ β l v) := hide ((unhide HSw8).below B (Nat.le_refl _))
          have HBw9 : Hid (Below w'.heap.size w' w9) := hide ((unhide HBw8).trans (B.mono (unhide HBw8).size))
          clear B
          go_wp2_with fail
          go_ret
          exact ⟨rfl, unhide HBw9⟩

end Go.Proofs.Qxb6002605a
