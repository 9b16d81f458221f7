/- zzBuildPath -/
import Derived.Test.Qxb6002605aClone
namespace Go.Proofs.Qxb6002605a
open Go.ChangeShapes Go.WideShapes Go.ChangeAt Go.RowKit
set_option linter.unusedVariables false
set_option linter.unusedSimpArgs false

theorem info74 : ∃ i, Try.prog.info? 74 = some i ∧ i.zero = some (.agg #[.int .u8 0, .slice none 0 0]) ∧ i.size = 2 ∧ i.bytes ≤ 64 := by
  have h : (Try.prog.info? 74).map (fun i => (i.zero, i.size, decide (i.bytes ≤ 64))) = some (some (.agg #[.int .u8 0, .slice none 0 0]), 2, true) := by kernel_rfl
  cases hq : Try.prog.info? 74 with
  | none => simp [hq] at h
  | some i => simp [hq] at h; exact ⟨i, rfl, h.1, h.2.1, h.2.2⟩
def pathZ (n : Nat) : Array Value := madeCells #[.int .u8 0, .slice none 0 0] (n * 2)
theorem mk30 (n : Nat) (hn : n ≤ 65536) (W : World) : (Instr.makeSlice 30 (.int .i64 0) (.int .i64 (n : Int))).run Try.prog W = .ok (.slice (some ⟨W.heap.size, 0, none⟩) 0 n) (W.alloc (.cells (pathZ n) 74)) := by
  obtain ⟨i, hi, hz, hs, hb⟩ := info74
  have hm : (i.bytes : Int) * (n : Int) ≤ 64 * 65536 := Int.mul_le_mul (by omega) (by omega) (by omega) (by omega)
  have := run_make (P := Try.prog) W 30 74 i _ Try.underlying30 hi hz .i64 .i64 0 (n : Int) (by omega) (by omega) (by omega) (by omega)
  simp only [Int.toNat_natCast, hs] at this
  rw [this]
  rfl
theorem bs30 (x : Int) (a : Option Addr) (l c : Nat) (W : World) : (Instr.buildSlice 30 1 #[(0, .agg #[.int .u8 x, .slice a l c])]).run Try.prog W = .ok (.slice (some ⟨W.heap.size, 0, none⟩) 1 1) (W.alloc (.cells #[.int .u8 x, .slice a l c] 74)) := by kernel_rfl
/-- append with room, as an operation of a plain region -/
theorem wpList_app30 {ops : Array Oper} {rest : List Oper} {o : Oper} {a : Act} {Q : Exit → Act → World → Prop} (W : World) (hg : o.guard = none) (s x : Operand)
    (hop : o.op = Op.call { callee := Callee.builtin Builtin.append, args := #[s, x], argTypes := #[30, 30] }) (pb k n hb : Nat) (hs : a.eval s = .slice (some ⟨pb, 0, none⟩) k n) (hx : a.eval x = .slice (some ⟨hb, 0, none⟩) 1 1)
    (u1 u2 : Value) (h1 : u1.oneCell' = true) (h2 : u2.oneCell' = true) (hc1 : W.cell? ⟨hb, 0, none⟩ = some u1) (hc2 : W.cell? ⟨hb, 1, none⟩ = some u2) (hk : k + 1 ≤ n) (hl : (blkOf W pb).length = n * 2)
    (h : wpList Try.prog ops Q rest (a.put o.dst (.slice (some ⟨pb, 0, none⟩) (k + 1) n)) (put W pb (k * 2) [u1, u2])) : wpList Try.prog ops Q (o :: rest) a W := by
  obtain ⟨i, hi, hz, hsz, hb'⟩ := info74
  refine wpList_plain hg fun K hK' => ?_
  have ht := blk_there (W := W) (b := pb) (k * 2) 2 (by omega) (by omega)
  have hrun := run_append_room_cells (P := Try.prog) W 30 o.type 74 i Try.underlying30 hi pb 0 k n ⟨hb, 0, none⟩ 1 1 [u1, u2] (by rw [hsz]; rfl)
    (fun j u hj => by
      rw [Addr.add_mid]
      match j, hj with
      | 0, hj => simp at hj; subst hj; exact hc1
      | 1, hj => simp at hj; subst hj; exact hc2) (fun u hu => by simp at hu; rcases hu with rfl | rfl; exact h1; exact h2) hk
    (fun j hj => by rw [hsz]; have := (ht j hj).1; simpa using this) (fun j hj => by rw [hsz]; have := (ht j hj).2; simpa using this)
  rw [hsz, Nat.zero_add] at hrun
  unfold Oper.wp
  simp [execOp, hop, resolve, invoke, builtin, hs, hx, hrun, Result.andThen]
  exact hK' _ _ h

/-- what stands behind k rounds: k segments; n places -/
def BInv (w : World) (n k : Nat) (wr : World) : Prop :=
  ∃ (τ : Nat → Int) (β l : Nat → Nat) (v : Nat → Nat → Int), (blkOf wr w.heap.size).length = n * 2 ∧
    (∀ i, i < k → (blkOf wr w.heap.size)[i * 2]? = some (.int .u8 (τ i)) ∧ (blkOf wr w.heap.size)[i * 2 + 1]? = some (.slice (some ⟨β i, 0, none⟩) (l i) (l i)) ∧ l i ≤ 65536 ∧ w.heap.size < β i ∧ ∀ j, j < l i → wr.cell? ⟨β i, j, none⟩ = some (.int .u32 (v i j))) ∧
    Below w.heap.size w wr ∧ w.heap.size < wr.heap.size
theorem BInv_start (w : World) (n : Nat) : BInv w n 0 (w.alloc (.cells (pathZ n) 74)) :=
  ⟨fun _ => 0, fun _ => 0, fun _ => 0, fun _ _ => 0, by rw [blk_alloc, if_pos rfl]; simp [pathZ, size_madeCells], fun i hi => absurd hi (Nat.not_lt_zero i), (Below.refl _ _).alloc (Nat.le_refl _) _, by simp⟩
theorem BInv_step (w : World) (n k : Nat) (wr w2 : World) (L : Nat) (f : Nat → Int) (x : Int) (hk : k < n) (hL : L ≤ 65536) (h : BInv w n k wr) (hI : Below wr.heap.size wr w2) (hz : wr.heap.size < w2.heap.size) (hb : blkOf w2 wr.heap.size = arrK .u32 L f) :
    BInv w n (k + 1) (put (w2.alloc (.cells #[.int .u8 x, .slice (some ⟨wr.heap.size, 0, none⟩) L L] 74)) w.heap.size (k * 2) [.int .u8 x, .slice (some ⟨wr.heap.size, 0, none⟩) L L]) := by
  obtain ⟨τ, β, l, v, h1, h2, h3, h4⟩ := h
  have hp : blkOf (put (w2.alloc (.cells #[.int .u8 x, .slice (some ⟨wr.heap.size, 0, none⟩) L L] 74)) w.heap.size (k * 2) [.int .u8 x, .slice (some ⟨wr.heap.size, 0, none⟩) L L]) w.heap.size
      = ((blkOf wr w.heap.size).set (k * 2) (.int .u8 x)).set (k * 2 + 1) (.slice (some ⟨wr.heap.size, 0, none⟩) L L) := by
    rw [blk_put, if_pos rfl, blk_alloc, if_neg (by omega), blk_below hI h4]; rfl
  have hcell : ∀ (b o : Nat), b < w2.heap.size → b ≠ w.heap.size → (put (w2.alloc (.cells #[.int .u8 x, .slice (some ⟨wr.heap.size, 0, none⟩) L L] 74)) w.heap.size (k * 2) [.int .u8 x, .slice (some ⟨wr.heap.size, 0, none⟩) L L]).cell? ⟨b, o, none⟩ = w2.cell? ⟨b, o, none⟩ := by
    intro b o hb1 hb2
    show ((w2.alloc _).setCells w.heap.size (k * 2) _).cell? ⟨b, o, none⟩ = _
    rw [World.cell?_setCells_out _ _ _ _ _ (fun e => absurd e hb2), World.cell?_alloc_lt _ _ _ hb1]
  refine ⟨fun i => if i = k then x else τ i, fun i => if i = k then wr.heap.size else β i, fun i => if i = k then L else l i, fun i => if i = k then f else v i, ?_, ?_, ?_, ?_⟩
  · rw [hp]; simp [h1]
  · intro i hi
    rw [hp]
    by_cases e : i = k
    · subst e
      simp only [if_true]
      refine ⟨?_, ?_, hL, h4, fun j hj => ?_⟩
      · rw [List.getElem?_set_ne (by omega), List.getElem?_set_self (by omega)]
      · rw [List.getElem?_set_self (by simp; omega)]
      · rw [hcell _ _ hz (by omega), blk_cell (by rw [hb, lenK]; exact hj), hb]; simp [at_, getK .u32 L f j hj]
    · simp only [if_neg e]
      obtain ⟨q1, q2, q3, q4, q5⟩ := h2 i (by omega)
      refine ⟨?_, ?_, q3, q4, fun j hj => ?_⟩
      · rw [List.getElem?_set_ne (by omega), List.getElem?_set_ne (by omega)]; exact q1
      · rw [List.getElem?_set_ne (by omega), List.getElem?_set_ne (by omega)]; exact q2
      · have h5 := q5 j hj
        have h6 := World.block_lt_of_cell? _ _ h5
        rw [hcell _ _ (by have h7 : β i < wr.heap.size := h6; omega) (by omega), hI.cell (p := ⟨_, _, _⟩) h6]; exact h5
  · exact below_put _ (((h3.trans (hI.mono (by omega))).alloc (by have := h3.size; omega) _)) (Nat.le_refl _) _
  · rw [size_put]; simp; omega
theorem BInv_end (w : World) (n : Nat) (wr : World) (h : BInv w n n wr) : ∃ (τ : Nat → Int) (β l : Nat → Nat) (v : Nat → Nat → Int), SegsAt wr w.heap.size 0 n τ β l v := by
  obtain ⟨τ, β, l, v, h1, h2, h3, h4⟩ := h
  refine ⟨τ, β, l, v, fun i hi => ?_⟩
  obtain ⟨q1, q2, q3, q4, q5⟩ := h2 i hi
  refine ⟨?_, ?_, q3, q5⟩
  · rw [Nat.zero_add, blk_cell (by omega)]; simp [at_, q1]
  · rw [Nat.zero_add, blk_cell (by omega)]; simp [at_, q2]

set_option maxRecDepth 100000 in
set_option maxHeartbeats 3200000 in
theorem build_any (a0 a1 a2 : Option Addr) (n0 n1 n2 : Nat) (f0 f1 f2 : Nat → Int) (w : World) (l0 : n0 ≤ 65536) (l1 : n1 ≤ 65536) (l2 : n2 ≤ 65536)
    (h0 : Hid (Src .u8 w a0 n0 f0)) (h1 : Hid (Src .u16 w a1 n1 f1)) (h2 : Hid (Src .u32 w a2 n2 f2)) (hb1 : Hid (∀ i, i < n1 → 0 ≤ f1 i ∧ f1 i ≤ 65535)) :
    Calls Try.prog 11 #[.slice a0 n0 n0, .slice a1 n1 n1, .slice a2 n2 n2] w fun e w' => e = .returned (.slice (some ⟨w.heap.size, 0, none⟩) n0 n0) ∧
      (∃ (τ : Nat → Int) (β l : Nat → Nat) (v : Nat → Nat → Int), SegsAt w' w.heap.size 0 n0 τ β l v) ∧ Below w.heap.size w w' := by
  have l0' : (n0 : Int) ≤ 65536 := by omega
  have l1' : (n1 : Int) ≤ 65536 := by omega
  have l2' : (n2 : Int) ≤ 65536 := by omega
  have mkp := fun W => mk30 n0 l0 W
  have mks := bs30
  go_enter Try.func11, Try.ntmps11
  go_wp2
  go_loopw [7, 8, 9] (fun p a i wr => ∃ k at_' : Nat, k ≤ n0 ∧ at_' ≤ n2 ∧ p = .slice (some ⟨w.heap.size, 0, none⟩) k n0 ∧ a = .int .i64 at_' ∧ i = .int .i64 k ∧ Hid (BInv w n0 k wr)) (fun _ _ i _ => n0 - (intOf i).toNat)
  case atStart => exact ⟨0, 0, Nat.zero_le _, Nat.zero_le _, rfl, rfl, rfl, hide (BInv_start _ _)⟩
  case round =>
    obtain ⟨k, at_', hk, hat, rfl, rfl, rfl, HB⟩ := hrel
    obtain ⟨wo, hwo⟩ : ∃ x, x = wr := ⟨_, rfl⟩
    subst hwo
    by_cases hlt : k < n0
    · obtain ⟨D, hD⟩ : ∃ D : Nat, (n2 : Int) - (at_' : Int) = (D : Int) := ⟨n2 - at_', by omega⟩
      have hD2 : at_' + D = n2 := by omega
      have D0 : (0 : Int) ≤ (D : Int) := by omega
      have D1 : (D : Int) ≤ 65536 := by omega
      have hat' : (at_' : Int) ≤ (n2 : Int) := by omega
      have HD2 := hide hD2
      have D2 : at_' + D ≤ n2 := by omega
      clear hD2
      by_cases k1 : k < n1
      · obtain ⟨b1, hba1, hc1⟩ := unhide h1
        have ea1 := hba1 (by omega)
        subst ea1
        obtain ⟨L, hL⟩ : ∃ L : Nat, f1 k = (L : Int) := ⟨(f1 k).toNat, by have := unhide hb1 k k1; omega⟩
        have hL2 : (L : Int) ≤ 65535 := by have := unhide hb1 k k1; omega
        have hcell : wo.cell? ⟨b1, k, none⟩ = some (.int .u16 (L : Int)) := by
          have h5 := hc1 k k1
          have h6 := World.block_lt_of_cell? _ _ h5
          obtain ⟨-, -, -, -, -, -, h8, -⟩ := unhide HB
          rw [h8.cell (p := ⟨_, _, _⟩) h6, h5, hL]
        have HL := hide hL
        clear hc1 hL
        by_cases hgt : (D : Int) < (L : Int)
        · have mk := fun W => mk_24 D (by omega) W
          go_wp2_with fail
          go_loopw [12] (fun j w2 => ∃ m : Nat, m ≤ D ∧ j = .int .i64 m ∧ Hid (KInv .u32 wo D (fun j => f2 (at_' + j)) m w2)) (fun j _ => D - (intOf j).toNat)
          case atStart => exact ⟨0, Nat.zero_le _, rfl, hide (KInv_start _ _ _ _ _)⟩
          case round =>
            obtain ⟨m, hm, rfl, HI⟩ := hrel
            by_cases hlm : m < D
            · obtain ⟨b2, hb2, hc2⟩ := unhide h2
              have ea2 := hb2 (by omega)
              subst ea2
              have x1 : (at_' : Int) + (m : Int) < (n2 : Int) := by omega
              have x5 : ((at_' : Int) + (m : Int)).toNat = at_' + m := by omega
              have hcell : wr.cell? ⟨b2, at_' + m, none⟩ = some (.int .u32 (f2 (at_' + m))) := by
                have h5 := hc2 (at_' + m) (by omega)
                have h6 := World.block_lt_of_cell? _ _ h5
                obtain ⟨-, -, -, -, -, -, h8, -⟩ := unhide HB
                rw [(unhide HI).2.1.cell (p := ⟨_, _, _⟩) (by have h7 : b2 < w.heap.size := h6; have := h8.size; show b2 < wo.heap.size; omega), h8.cell (p := ⟨_, _, _⟩) h6]; exact h5
              obtain ⟨⟨y, hcv⟩, hfz⟩ := KInv_cell _ _ _ _ _ _ (unhide HI) hlm
              clear hc2
              go_wp2_with fail
              go_roundw
              case rel => exact ⟨m + 1, by omega, by go_num, hide (KInv_step _ _ _ _ _ _ (unhide HI))⟩
              case measure => simp [intOf]; omega
            · have hsb : blkOf wr wo.heap.size = arrK .u32 D (fun j => f2 (at_' + j)) := KInv_end _ _ _ _ _ _ (unhide HI) (by omega)
              have BI : Below wo.heap.size wo wr := (unhide HI).2.1
              have zI : wo.heap.size < wr.heap.size := (unhide HI).2.2
              obtain ⟨b0, hb0, hc0⟩ := unhide h0
              have ea0 := hb0 (by omega)
              subst ea0
              have HC0 : Hid (w.cell? ⟨b0, k, none⟩ = some (.int .u8 (f0 k))) := hide (hc0 k hlt)
              have HBS := hide (BInv_step w n0 k wo wr D (fun j => f2 (at_' + j)) (f0 k) hlt (by omega) (unhide HB) BI zI hsb)
              obtain ⟨-, -, -, -, hlen, -, h8, z8⟩ := unhide HB
              have hcell0 : wr.cell? ⟨b0, k, none⟩ = some (.int .u8 (f0 k)) := by
                have h5 := unhide HC0
                have h6 := World.block_lt_of_cell? _ _ h5
                rw [BI.cell (p := ⟨_, _, _⟩) (by have h7 : b0 < w.heap.size := h6; show b0 < wo.heap.size; omega), h8.cell (p := ⟨_, _, _⟩) h6]; exact h5
              have hlen2 : Hid ((blkOf (wr.alloc (.cells #[.int .u8 (f0 k), .slice (some ⟨wo.heap.size, 0, none⟩) D D] 74)) w.heap.size).length = n0 * 2) := hide (by rw [blk_alloc, if_neg (by omega), blk_below BI z8]; exact hlen)
              clear hsb BI zI hc0 hlen h8 HI
              go_wp2_with (at_builtin; refine wpList_app30 _ rfl _ _ rfl w.heap.size k n0 wr.heap.size rfl rfl (.int .u8 (f0 k)) (.slice (some ⟨wo.heap.size, 0, none⟩) D D) rfl rfl (by go_simp) (by go_simp) hlt (unhide hlen2) ?_)
              go_roundw
              case rel => exact ⟨k + 1, at_' + D, by omega, by omega, rfl, by go_num, by go_num, HBS⟩
              case measure => simp [intOf]; omega
        · have mk := fun W => mk_24 L (by omega) W
          go_wp2_with fail
          go_loopw [12] (fun j w2 => ∃ m : Nat, m ≤ L ∧ j = .int .i64 m ∧ Hid (KInv .u32 wo L (fun j => f2 (at_' + j)) m w2)) (fun j _ => L - (intOf j).toNat)
          case atStart => exact ⟨0, Nat.zero_le _, rfl, hide (KInv_start _ _ _ _ _)⟩
          case round =>
            obtain ⟨m, hm, rfl, HI⟩ := hrel
            by_cases hlm : m < L
            · obtain ⟨b2, hb2, hc2⟩ := unhide h2
              have ea2 := hb2 (by omega)
              subst ea2
              have x1 : (at_' : Int) + (m : Int) < (n2 : Int) := by omega
              have x5 : ((at_' : Int) + (m : Int)).toNat = at_' + m := by omega
              have hcell : wr.cell? ⟨b2, at_' + m, none⟩ = some (.int .u32 (f2 (at_' + m))) := by
                have h5 := hc2 (at_' + m) (by omega)
                have h6 := World.block_lt_of_cell? _ _ h5
                obtain ⟨-, -, -, -, -, -, h8, -⟩ := unhide HB
                rw [(unhide HI).2.1.cell (p := ⟨_, _, _⟩) (by have h7 : b2 < w.heap.size := h6; have := h8.size; show b2 < wo.heap.size; omega), h8.cell (p := ⟨_, _, _⟩) h6]; exact h5
              obtain ⟨⟨y, hcv⟩, hfz⟩ := KInv_cell _ _ _ _ _ _ (unhide HI) hlm
              clear hc2
              go_wp2_with fail
              go_roundw
              case rel => exact ⟨m + 1, by omega, by go_num, hide (KInv_step _ _ _ _ _ _ (unhide HI))⟩
              case measure => simp [intOf]; omega
            · have hsb : blkOf wr wo.heap.size = arrK .u32 L (fun j => f2 (at_' + j)) := KInv_end _ _ _ _ _ _ (unhide HI) (by omega)
              have BI : Below wo.heap.size wo wr := (unhide HI).2.1
              have zI : wo.heap.size < wr.heap.size := (unhide HI).2.2
              obtain ⟨b0, hb0, hc0⟩ := unhide h0
              have ea0 := hb0 (by omega)
              subst ea0
              have HC0 : Hid (w.cell? ⟨b0, k, none⟩ = some (.int .u8 (f0 k))) := hide (hc0 k hlt)
              have HBS := hide (BInv_step w n0 k wo wr L (fun j => f2 (at_' + j)) (f0 k) hlt (by omega) (unhide HB) BI zI hsb)
              obtain ⟨-, -, -, -, hlen, -, h8, z8⟩ := unhide HB
              have hcell0 : wr.cell? ⟨b0, k, none⟩ = some (.int .u8 (f0 k)) := by
                have h5 := unhide HC0
                have h6 := World.block_lt_of_cell? _ _ h5
                rw [BI.cell (p := ⟨_, _, _⟩) (by have h7 : b0 < w.heap.size := h6; show b0 < wo.heap.size; omega), h8.cell (p := ⟨_, _, _⟩) h6]; exact h5
              have hlen2 : Hid ((blkOf (wr.alloc (.cells #[.int .u8 (f0 k), .slice (some ⟨wo.heap.size, 0, none⟩) L L] 74)) w.heap.size).length = n0 * 2) := hide (by rw [blk_alloc, if_neg (by omega), blk_below BI z8]; exact hlen)
              clear hsb BI zI hc0 hlen h8 HI
              go_wp2_with (at_builtin; refine wpList_app30 _ rfl _ _ rfl w.heap.size k n0 wr.heap.size rfl rfl (.int .u8 (f0 k)) (.slice (some ⟨wo.heap.size, 0, none⟩) L L) rfl rfl (by go_simp) (by go_simp) hlt (unhide hlen2) ?_)
              go_roundw
              case rel => exact ⟨k + 1, at_' + L, by omega, by omega, rfl, by go_num, by go_num, HBS⟩
              case measure => simp [intOf]; omega
      · have mk : ∀ W : World, (Instr.makeSlice 24 (.int .i64 0) (.int .i64 0)).run Try.prog W = .ok (.slice (some ⟨W.heap.size, 0, none⟩) 0 0) (W.alloc (.cells (arrK .u32 0 zfK).toArray 34)) := fun W => mk_24 0 (by omega) W
        go_wp2_with fail
        go_loopw [12] (fun j w2 => ∃ m : Nat, m ≤ 0 ∧ j = .int .i64 m ∧ Hid (KInv .u32 wo 0 (fun j => f2 (at_' + j)) m w2)) (fun j _ => 0 - (intOf j).toNat)
        case atStart => exact ⟨0, Nat.zero_le _, rfl, hide (KInv_start _ _ _ _ _)⟩
        case round =>
          obtain ⟨m, hm, rfl, HI⟩ := hrel
          by_cases hlm : m < 0
          · exact absurd hlm (Nat.not_lt_zero _)
          · have hsb : blkOf wr wo.heap.size = arrK .u32 0 (fun j => f2 (at_' + j)) := KInv_end _ _ _ _ _ _ (unhide HI) (by omega)
            have BI : Below wo.heap.size wo wr := (unhide HI).2.1
            have zI : wo.heap.size < wr.heap.size := (unhide HI).2.2
            obtain ⟨b0, hb0, hc0⟩ := unhide h0
            have ea0 := hb0 (by omega)
            subst ea0
            have HC0 : Hid (w.cell? ⟨b0, k, none⟩ = some (.int .u8 (f0 k))) := hide (hc0 k hlt)
            have HBS := hide (BInv_step w n0 k wo wr 0 (fun j => f2 (at_' + j)) (f0 k) hlt (by omega) (unhide HB) BI zI hsb)
            obtain ⟨-, -, -, -, hlen, -, h8, z8⟩ := unhide HB
            have hcell0 : wr.cell? ⟨b0, k, none⟩ = some (.int .u8 (f0 k)) := by
              have h5 := unhide HC0
              have h6 := World.block_lt_of_cell? _ _ h5
              rw [BI.cell (p := ⟨_, _, _⟩) (by have h7 : b0 < w.heap.size := h6; show b0 < wo.heap.size; omega), h8.cell (p := ⟨_, _, _⟩) h6]; exact h5
            have hlen2 : Hid ((blkOf (wr.alloc (.cells #[.int .u8 (f0 k), .slice (some ⟨wo.heap.size, 0, none⟩) 0 0] 74)) w.heap.size).length = n0 * 2) := hide (by rw [blk_alloc, if_neg (by omega), blk_below BI z8]; exact hlen)
            clear hsb BI zI hc0 hlen h8 HI
            go_wp2_with (at_builtin; refine wpList_app30 _ rfl _ _ rfl w.heap.size k n0 wr.heap.size rfl rfl (.int .u8 (f0 k)) (.slice (some ⟨wo.heap.size, 0, none⟩) 0 0) rfl rfl (by go_simp) (by go_simp) hlt (unhide hlen2) ?_)
            go_roundw
            case rel => exact ⟨k + 1, at_' + 0, by omega, by omega, rfl, by go_num, by go_num, HBS⟩
            case measure => simp [intOf]; omega
    · have hkn : k = n0 := by omega
      subst hkn
      go_wp2_with fail
      go_ret
      exact ⟨rfl, BInv_end _ _ _ (unhide HB), by obtain ⟨-, -, -, -, -, -, h8, -⟩ := unhide HB; exact h8⟩
end Go.Proofs.Qxb6002605a
