/- (*Attributes).parseExtCommunities -/
import Derived.Test.Qxb6002605aExt
import Derived.Deep.RegionLaw
namespace Go.Proofs.Qxb6002605a
open Go.ChangeShapes Go.WideShapes Go.ChangeAt Go.RowKit
set_option linter.unusedVariables false
set_option linter.unusedSimpArgs false

def attL (X : Value) : List Value := [.int .u64 0, .int .u64 0, .pointer none, X, .pointer none, .int .u8 0, .slice none 0 0, .int .u32 0, .int .u32 0]
theorem build53 (a : Option Addr) (l c : Nat) (W : World) : (buI 53 #[(1, .slice a l c)]).run Try.prog W = .ok (.agg (attL (.slice a l c)).toArray) W := by kernel_rfl
theorem len_att (X : Value) : (attL X).length = 9 := rfl
theorem att3 (X : Value) : at_ (attL X) 3 = X := rfl
theorem ov_att (X Y : Value) : over (attL X) 3 [Y] = attL Y := rfl
theorem sz38 : (Try.prog.info? 38).map (·.size) = some 1 := by kernel_rfl
theorem sz40 : (Try.prog.info? 40).map (·.size) = some 8 := by kernel_rfl
section
variable (W : World) (b o : Nat)
theorem ld38 (hn : o < (blkOf W b).length) : (ldI 38 (.pointer (some ⟨b, o, none⟩))).run Try.prog W = .ok (at_ (blkOf W b) o) W := load_one 38 o _ Try.underlying38 rfl hn
theorem ld40 (hn : o + 8 ≤ (blkOf W b).length) : (ldI 40 (.pointer (some ⟨b, o, none⟩))).run Try.prog W = .ok (.agg (cut (blkOf W b) o 8).toArray) W := load_row 40 o 8 _ Try.underlying40 rfl sz40 (by decide) hn
theorem st38 (a : Option Addr) (l c : Nat) (hn : o < (blkOf W b).length) : (stI 38 (.pointer (some ⟨b, o, none⟩)) (.slice a l c)).run Try.prog W = .ok () (put W b o [.slice a l c]) := store_one 38 o _ sz38 rfl rfl hn
end
theorem ex_load38 (ρ : Operand → Value) (dst : Option Tmp) (x : Operand) (ty : TypeId) (pos : String) (after : Array Edge) (guard : Option (Nat × Bool)) :
    execOp ρ ⟨dst, .load 38 x, ty, pos, after, guard⟩ = (do pure (.value (← ldI 38 (ρ x)))) := rfl
theorem ex_load40 (ρ : Operand → Value) (dst : Option Tmp) (x : Operand) (ty : TypeId) (pos : String) (after : Array Edge) (guard : Option (Nat × Bool)) :
    execOp ρ ⟨dst, .load 40 x, ty, pos, after, guard⟩ = (do pure (.value (← ldI 40 (ρ x)))) := rfl
theorem ex_store38 (ρ : Operand → Value) (dst : Option Tmp) (x y : Operand) (ty : TypeId) (pos : String) (after : Array Edge) (guard : Option (Nat × Bool)) :
    execOp ρ ⟨dst, .store 38 x y, ty, pos, after, guard⟩ = (do stI 38 (ρ x) (ρ y); pure .skip) := rfl
def bsI (ty : TypeId) (n : Nat) (ps : Array (Nat × Value)) : Sem Value := Instr.buildSlice ty n ps
theorem ex_bslice (ρ : Operand → Value) (dst : Option Tmp) (t : TypeId) (n : Nat) (ps : Array (Nat × Operand)) (ty : TypeId) (pos : String) (after : Array Edge) (guard : Option (Nat × Bool)) :
    execOp ρ ⟨dst, .buildSlice t n ps, ty, pos, after, guard⟩ = (do pure (.value (← bsI t n (ps.map fun (i, x) => (i, ρ x))))) := rfl
theorem bslice38 (f : Nat → Int) (W : World) : (bsI 38 1 #[(0, .agg (arr 8 f).toArray)]).run Try.prog W = .ok (.slice (some ⟨W.heap.size, 0, none⟩) 1 1) (W.alloc (.cells (arr 8 f).toArray 40)) := by kernel_rfl
theorem arrAt40 (a : Option Addr) (c : Nat) (W : World) : (Instr.arrayAt 40 (.slice a 8 c)).run Try.prog W = .ok (.pointer a) W := by kernel_rfl
theorem app_news (W : World) (h : Nat → Int) : ∀ j u, (arr 8 h)[j]? = some u → (W.alloc (.cells (arr 8 h).toArray 40)).drew.cell? ((⟨W.heap.size, 0, none⟩ : Addr).add j) = some u := by
  intro j u hj
  rw [Addr.add_mid]
  have hj8 : j < (arr 8 h).length := (List.getElem?_eq_some_iff.1 hj).1
  have hb : blkOf (W.alloc (.cells (arr 8 h).toArray 40)).drew W.heap.size = arr 8 h := by rw [blk_drew, blk_alloc]; simp
  have := blk_cell (W := (W.alloc (.cells (arr 8 h).toArray 40)).drew) (b := W.heap.size) (o := 0 + j) (by rw [hb]; omega)
  rw [this, hb]
  simp [at_, hj]
theorem app_spare (W : World) (h : Nat → Int) (nb k m : Nat) (g : Nat → Int) (hne : ¬ nb = W.heap.size) (hg : blkOf W nb = arr (m * 8) g) (hk : k * 8 + 8 ≤ m * 8) : ∀ j, j < (arr 8 h).length →
    ((W.alloc (.cells (arr 8 h).toArray 40)).drew.cell? ⟨nb, 0 + k * 8 + j, none⟩).isSome = true ∧ (W.alloc (.cells (arr 8 h).toArray 40)).drew.frozen? ⟨nb, 0 + k * 8 + j, none⟩ = false := by
  have hb : blkOf (W.alloc (.cells (arr 8 h).toArray 40)).drew nb = arr (m * 8) g := by rw [blk_drew, blk_alloc, if_neg hne, hg]
  have := blk_there (W := (W.alloc (.cells (arr 8 h).toArray 40)).drew) (b := nb) (k * 8) 8 (by rw [hb, len_arr]; omega) (by rw [hb, len_arr]; exact hk)
  intro j hj
  have h2 := this j (by rw [len_arr] at hj; exact hj)
  simpa using h2
theorem all_arr (n : Nat) (f : Nat → Int) : (arr n f).all (·.oneCell') = true := List.all_eq_true.2 (one_arr n f)

def lenV : Value → Nat
  | .slice _ n _ => n
  | _ => 0
/-- what holds of the world behind k rounds -/
def PInv (ab vb m : Nat) (f : Nat → Int) (w : World) (k : Nat) (wr : World) : Prop :=
  blkOf wr vb = arr (8 * m) f ∧ blkOf wr ab = attL (.slice (some ⟨w.heap.size, 0, none⟩) k m) ∧ (∃ g, blkOf wr w.heap.size = arr (m * 8) g ∧ ∀ j, j < 8 * k → g j = f j) ∧ Below ab w wr

theorem PInv_step (ab vb m : Nat) (f : Nat → Int) (w : World) (k o : Nat) (wr : World) (g : Nat → Int) (ho : o = 8 * k) (hk : k < m) (hlt : vb < ab) (hab : ab < w.heap.size)
    (i1 : blkOf wr vb = arr (8 * m) f) (i2 : blkOf wr ab = attL (.slice (some ⟨w.heap.size, 0, none⟩) k m)) (i3 : blkOf wr w.heap.size = arr (m * 8) g) (i4 : ∀ j, j < 8 * k → g j = f j) (i5 : Below ab w wr) :
    PInv ab vb m f w (k + 1) (put (put (wr.alloc (.cells (arr 8 fun i => f (o + i)).toArray 40)).drew w.heap.size (k * 8) (arr 8 fun i => f (o + i))) ab 3 [.slice (some ⟨w.heap.size, 0, none⟩) (k + 1) m]) := by
  have z := i5.size
  have w0 : w.heap.size < wr.heap.size := blk_lt (o := 0) (by rw [i3, len_arr]; omega)
  refine ⟨?_, ?_, ⟨fun j => if k * 8 ≤ j ∧ j < k * 8 + 8 then f (o + (j - k * 8)) else g j, ?_, ?_⟩, ?_⟩
  · rw [blk_put, if_neg (by omega), blk_put, if_neg (by omega), blk_drew, blk_alloc, if_neg (by omega), i1]
  · rw [blk_put, if_pos rfl, blk_put, if_neg (by omega), blk_drew, blk_alloc, if_neg (by omega), i2, ov_att]
  · rw [blk_put, if_neg (by omega), blk_put, if_pos rfl, blk_drew, blk_alloc, if_neg (by omega), i3]
    exact over_arr 8 (m * 8) g (fun i => f (o + i)) (k * 8)
  · intro j hj
    by_cases c : k * 8 ≤ j ∧ j < k * 8 + 8
    · simp only [if_pos c]
      congr 1; omega
    · simp only [if_neg c]
      exact i4 j (by omega)
  · exact below_put _ (below_put _ ((i5.alloc (by omega) _).drew) (by omega) _) (Nat.le_refl _) _

attribute [local go_sem ↓] ex_load38 ex_load40 ex_store38 ex_build ex_bslice
attribute [local go_sem] arrAt40 cut_arr setCells_put build53 ld38 ld40 st38 bslice38 all_arr blk_drew blk_drewN blk_alloc blk_put size_put len_arr len_att att3 ov_att a8

set_option maxHeartbeats 400000 in
theorem parse_no (ab : Nat) (v : Option Addr) (n c : Nat) (w : World) (hn : n ≤ 1048576) (h : n = 0 ∨ ¬ n % 8 = 0) :
    Calls Try.prog 20 #[.pointer (some ⟨ab, 0, none⟩), .slice v n c] w fun e w' => e = .returned (.int .u8 11) ∧ w' = w := by
  by_cases h0 : n = 0
  · have h0' : ((n : Int) == 0) = true := by simp [h0]
    clear h h0
    go_enter Try.func20, Try.ntmps20
    go_wp2
    go_ret
    exact ⟨rfl, rfl⟩
  · have h0' : ((n : Int) == 0) = false := by simp [h0]
    have h1 : (((n : Int) % 8) != 0) = true := by simp; omega
    have hn' : (n : Int) ≤ 1048576 := by omega
    clear h h0
    go_enter Try.func20, Try.ntmps20
    go_wp2
    go_ret
    exact ⟨rfl, rfl⟩

set_option maxRecDepth 100000 in
set_option maxHeartbeats 1600000 in
theorem parse_ok (ab vb m : Nat) (f : Nat → Int) (X : Value) (w : World) (hm : 0 < m) (hm2 : 8 * m ≤ 1048576) (hv : blkOf w vb = arr (8 * m) f) (ha : blkOf w ab = attL X) (hlt : vb < ab) :
    Calls Try.prog 20 #[.pointer (some ⟨ab, 0, none⟩), .slice (some ⟨vb, 0, none⟩) (8 * m) (8 * m)] w fun e w' => e = .returned (.int .u8 0) ∧
      ∃ nb, blkOf w' nb = arr (m * 8) f ∧ blkOf w' ab = attL (.slice (some ⟨nb, 0, none⟩) m m) ∧ w.heap.size ≤ nb ∧ Below ab w w' := by
  have hab : ab < w.heap.size := blk_lt (o := 0) (by rw [ha, len_att]; decide)
  have n0 : ¬ ab = w.heap.size := by omega
  have n1 : ¬ vb = w.heap.size := by omega
  have n2 : ¬ vb = ab := by omega
  have n9 : ¬ w.heap.size = ab := by omega
  have q0 : (((8 * m : Nat) : Int) == 0) = false := by simp; omega
  have q1 : ((((8 * m : Nat) : Int) % 8) != 0) = false := by simp
  have q2 : ((8 * m : Nat) : Int) / 8 = (m : Int) := by omega
  have q3 : ((8 * m : Nat) : Int) ≤ 1048576 := by omega
  have hmk : ∀ W : World, (Instr.makeSlice 38 (.int .i64 0) (.int .i64 (m : Int))).run Try.prog W = .ok (.slice (some ⟨W.heap.size, 0, none⟩) 0 m) (W.alloc (.cells (arr (m * 8) zf).toArray 40)) := fun W => mk38 0 m (Nat.zero_le _) (by omega) W
  generalize hN : 8 * m = N at *
  have HN := hide hN
  clear hN
  go_enter Try.func20, Try.ntmps20
  go_wp2
  go_loopw [1] (fun v wr => ∃ k o L : Nat, k ≤ m ∧ v = .slice (some ⟨vb, o, none⟩) L L ∧ Hid (0 < L → o = 8 * k) ∧ Hid (L = N - 8 * k) ∧ Hid (PInv ab vb m f w k wr)) (fun v _ => lenV v)
  case atStart =>
    refine ⟨0, 0, N, Nat.zero_le _, rfl, hide (fun _ => rfl), hide rfl, hide ⟨?_, ?_, ⟨zf, ?_, fun j hj => absurd hj (by omega)⟩, ?_⟩⟩
    · rw [unhide HN]; go_simp
    · go_simp
    · go_simp
    · exact below_put _ ((Below.refl _ _).alloc (by omega) _) (Nat.le_refl _) _
  case round =>
    obtain ⟨k, o, L, hk, rfl, Ho, HL, HI⟩ := hrel
    by_cases hlt : k < m
    · have L8 : 8 ≤ L := by have := unhide HL; have := unhide HN; omega
      have L8' : (8 : Int) ≤ (L : Int) := by omega
      have L0 : (0 : Int) < (L : Int) := by omega
      have LM : (L : Int) ≤ 1048576 := by have := unhide HL; omega
      have Ho' : Hid (o = 8 * k) := hide (unhide Ho (by omega))
      have oN : o + 8 ≤ N := by have := unhide HL; have := unhide HN; have := unhide Ho'; omega
      have k8 : k * 8 + 8 ≤ m * 8 := by omega
      have k1 : k + 1 ≤ m := by omega
      obtain ⟨i1, i2, ⟨g, i3, i4⟩, i5⟩ := unhide HI
      have I4 := hide i4
      rw [unhide HN] at i1
      have z := i5.size
      have n3 : ¬ vb = wr.heap.size := by omega
      have n4 : ¬ ab = wr.heap.size := by omega
      have w0 : w.heap.size < wr.heap.size := blk_lt (o := 0) (by rw [i3, len_arr]; omega)
      have n5 : ¬ w.heap.size = wr.heap.size := by omega
      have n6 : ¬ w.heap.size = ab := by omega
      have n7 : ¬ w.heap.size = vb := by omega
      have n8 : ¬ ab = vb := by omega
      obtain ⟨q40, hi40, -, hs40, -⟩ := info40
      have hnews := app_news wr (fun i => f (o + i))
      have hspare := app_spare wr (fun i => f (o + i)) w.heap.size k m g n5 i3 k8
      have Hnews := hide hnews
      have Hspare := hide hspare
      have Hi40 := hide hi40
      have Hs40 := hide hs40
      clear HI i4 hnews hspare hi40 hs40
      go_wp2
      go_region_law (refine step_append_room rfl _ _ 38 rfl 40 q40 8 Try.underlying38 (unhide Hi40) (unhide Hs40) w.heap.size 0 k m (by rfl) ⟨wr.heap.size, 0, none⟩ 1 1 (arr 8 fun i => f (o + i)) (by rfl) (by rfl) (unhide Hnews) (one_arr _ _) k1 (unhide Hspare) ?_)
      all_goals (
        go_wp2
        go_roundw
        case rel => exact ⟨k + 1, if L = 8 then o else o + 8, L - 8, by omega, by split <;> rfl, hide (by have := unhide Ho'; intro h8; rw [if_neg (by omega)]; omega), hide (by have := unhide HL; omega), hide (PInv_step ab vb m f w k o wr g (unhide Ho') hlt (by omega) hab (by rw [i1, unhide HN]) i2 i3 (unhide I4) i5)⟩
        case measure => simp [lenV]; omega)
    · have hkm : k = m := by omega
      subst hkm
      have L0 : L = 0 := by have := unhide HL; have := unhide HN; omega
      subst L0
      go_wp2
      go_ret
      obtain ⟨i1, i2, ⟨g, i3, i4⟩, i5⟩ := unhide HI
      exact ⟨rfl, _, by rw [i3]; exact arr_congr fun j hj => i4 j (by omega), i2, Nat.le_refl _, i5⟩
end Go.Proofs.Qxb6002605a
