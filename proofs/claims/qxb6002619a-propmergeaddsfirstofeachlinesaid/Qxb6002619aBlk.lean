/- Blocks known whole: what they hold; loads and stores of parts of them, by one step each. -/
import Derived.Test.Qxb6002619aRows
import Derived.WalkKit
import Derived.ProofKit
import Derived.OpenShut
import Derived.Outline
import Derived.Deep.QuietTactic
import Derived.BigQuiet
import Derived.WalkSpells
import Derived.WalkLawsBesides
import Derived.Deep.RegionHeld3
import Derived.Deep.MidRow
import Derived.RegionTactic
import Derived.BigRegion
namespace Go.Proofs.Qxb6002619a
open Go.ChangeShapes Go.WideShapes Go.ChangeAt Go.RowKit
set_option linter.unusedVariables false

theorem hide {p : Prop} (h : p) : Hid p := h
theorem unhide {p : Prop} (h : Hid p) : p := h

/-- the cells of block b, where it is a plain block of which no cell is marked; else none -/
def blkOf (W : World) (b : Nat) : List Value :=
  match W.heap[b]? with
  | some (.cells C _ fr) => if fr = (0, 0) then C.toList else []
  | _ => []
/-- the part of a list of cells from o on, n long; the cell at o -/
def cut (C : List Value) (o n : Nat) : List Value := (C.drop o).take n
def at_ (C : List Value) (o : Nat) : Value := C.getD o undef
/-- the list C with the cells vs laid over it from o on -/
def over : List Value → Nat → List Value → List Value
  | C, _, [] => C
  | C, o, v :: r => over (C.set o v) (o + 1) r
/-- the world with the cells X laid into block b from o on -/
def put (W : World) (b o : Nat) (X : List Value) : World := W.setCells b o X

theorem blk_some {W : World} {b o : Nat} (h : o < (blkOf W b).length) : ∃ C t, W.heap[b]? = some (.cells C t) ∧ blkOf W b = C.toList := by
  unfold blkOf at h ⊢
  split at h
  · rename_i C t fr hb
    split at h
    · rename_i hf; subst hf; exact ⟨C, t, hb, by simp⟩
    · simp at h
  · simp at h
theorem blk_mk {W : World} {b : Nat} {C : Array Value} {t : TypeId} (h : W.heap[b]? = some (.cells C t)) : blkOf W b = C.toList := by
  unfold blkOf; simp [h]
theorem blk_lt {W : World} {b o : Nat} (h : o < (blkOf W b).length) : b < W.heap.size := by
  obtain ⟨C, t, hb, _⟩ := blk_some h
  exact (Array.getElem?_eq_some_iff.1 hb).1
theorem blk_of_block {W W' : World} {b : Nat} (h : W'.heap[b]? = W.heap[b]?) : blkOf W' b = blkOf W b := by unfold blkOf; rw [h]
theorem blk_below {B : Nat} {W W' : World} {b : Nat} (hb : Below B W W') (hl : b < B) : blkOf W' b = blkOf W b := blk_of_block (hb.block b hl)
theorem blk_drew (W : World) (b : Nat) : blkOf W.drew b = blkOf W b := rfl
theorem blk_drewN (W : World) (n b : Nat) : blkOf (W.drewN n) b = blkOf W b := rfl
theorem blk_alloc (W : World) (C : Array Value) (t : TypeId) (b : Nat) : blkOf (W.alloc (.cells C t)) b = if b = W.heap.size then C.toList else blkOf W b := by
  split
  · rename_i h; subst h
    apply blk_mk (t := t)
    show (W.heap.push _)[W.heap.size]? = _
    simp
  · rename_i h
    apply blk_of_block
    show (W.heap.push _)[b]? = _
    rw [Array.getElem?_push, if_neg h]
theorem blk_range {W : World} {b : Nat} (o n : Nat) (h : 0 < (blkOf W b).length) : W.rangeAt b o (cut (blkOf W b) o n) := by
  obtain ⟨C, t, hb, e⟩ := blk_some h
  rw [e]
  have := World.rangeAt_of_block hb o n
  unfold cut
  simpa [List.take_drop] using this
theorem blk_cell {W : World} {b o : Nat} (h : o < (blkOf W b).length) : W.cell? ⟨b, o, none⟩ = some (at_ (blkOf W b) o) := by
  obtain ⟨C, t, hb, e⟩ := blk_some h
  rw [e] at h ⊢
  unfold at_
  have ho : o < C.size := by simpa using h
  simp [World.cell?, hb, ho]
theorem blk_frozen {W : World} {b o : Nat} (h : 0 < (blkOf W b).length) : W.frozen? ⟨b, o, none⟩ = false := by
  obtain ⟨C, t, hb, e⟩ := blk_some h
  simp [World.frozen?, hb]
theorem blk_there {W : World} {b : Nat} (o n : Nat) (h0 : 0 < (blkOf W b).length) (hn : o + n ≤ (blkOf W b).length) : W.there b o n := by
  intro j hj
  rw [blk_cell (by omega), blk_frozen h0]
  exact ⟨rfl, rfl⟩
theorem blk_setCell (W : World) (b o : Nat) (v : Value) (b' : Nat) : blkOf (W.setCell ⟨b, o, none⟩ v) b' = if b' = b then (blkOf W b).set o v else blkOf W b' := by
  split
  · rename_i h; subst h
    unfold blkOf
    simp only [World.setCell, Array.getElem?_modify, if_true]
    cases hq : W.heap[b']? with
    | none => rfl
    | some x =>
      cases x with
      | cells C t fr =>
        simp only [Option.map_some]
        split
        · simp
        · rfl
      | _ => rfl
  · rename_i h
    exact blk_of_block (Below.heap_setCell _ _ _ _ h)
theorem blk_put : ∀ (X : List Value) (W : World) (b o b' : Nat), blkOf (put W b o X) b' = if b' = b then over (blkOf W b) o X else blkOf W b'
  | [], W, b, o, b' => by
    unfold put
    show blkOf W b' = _
    split
    · rename_i h; subst h; rfl
    · rfl
  | v :: r, W, b, o, b' => by
    have := blk_put r (W.setCell ⟨b, o, none⟩ v) b (o + 1) b'
    show blkOf (put (W.setCell ⟨b, o, none⟩ v) b (o + 1) r) b' = _
    rw [this, blk_setCell, blk_setCell]
    split
    · simp [over]
    · rfl
theorem size_put : ∀ (X : List Value) (W : World) (b o : Nat), (put W b o X).heap.size = W.heap.size
  | [], _, _, _ => rfl
  | v :: r, W, b, o => by
    show (put (W.setCell ⟨b, o, none⟩ v) b (o + 1) r).heap.size = _
    rw [size_put r]; simp [World.setCell]
theorem below_put {B : Nat} : ∀ (X : List Value) {a W : World} (h : Below B a W) {b : Nat} (hb : B ≤ b) (o : Nat), Below B a (put W b o X)
  | [], _, _, h, _, _, _ => h
  | v :: r, _, _, h, _, hb, o => below_put r (h.setCell (p := ⟨_, o, none⟩) hb v) hb (o + 1)

/-- LOAD a row or struct out of a block -/
theorem load_row {W : World} {b : Nat} (ty : TypeId) (o n : Nat) (d : TypeDesc) (hu : Try.prog.underlying ty = some d) (hd : d.isRow = true) (hi : (Try.prog.info? ty).map (·.size) = some n) (hp : 0 < n) (hn : o + n ≤ (blkOf W b).length) :
    (Instr.loadAt ty (.pointer (some ⟨b, o, none⟩))).run Try.prog W = .ok (.agg (cut (blkOf W b) o n).toArray) W :=
  run_loadAt_mid W b o ty _ d (blk_range o n (by omega)) hu hd (by rw [hi]; unfold cut; simp; omega)
/-- LOAD one cell -/
theorem load_one {W : World} {b : Nat} (ty : TypeId) (o : Nat) (d : TypeDesc) (hu : Try.prog.underlying ty = some d) (hd : d.isRow = false) (hn : o < (blkOf W b).length) :
    (Instr.loadAt ty (.pointer (some ⟨b, o, none⟩))).run Try.prog W = .ok (at_ (blkOf W b) o) W := by
  have hc := blk_cell hn
  have hagg : (isAgg ty).run Try.prog W = .ok false W := by
    unfold isAgg
    rw [Sem.run_bind, run_underlying hu W]
    cases d <;> simp_all
  simp [Instr.loadAt, Instr.sureAddr, loadVar, Sem.run_bind, hagg, hc]
/-- STORE a row or struct into it -/
theorem store_row {W : World} {b : Nat} (ty : TypeId) (o n : Nat) (X : List Value) (hi : (Try.prog.info? ty).map (·.size) = some n) (hp : 0 < n) (hX : X.length = n) (h1 : ∀ v ∈ X, v.oneCell' = true) (hn : o + n ≤ (blkOf W b).length) :
    (Instr.storeAt ty (.pointer (some ⟨b, o, none⟩)) (.agg X.toArray)).run Try.prog W = .ok () (put W b o X) := by
  have := run_storeAt_mid (P := Try.prog) W b o ty X.toArray (blk_there o _ (by omega) (by simp; omega)) (by simpa [hX] using hi) (all_oneCell_toArray h1)
  simpa [put] using this
/-- STORE one cell -/
theorem store_one {W : World} {b : Nat} (ty : TypeId) (o : Nat) (v : Value) (hi : (Try.prog.info? ty).map (·.size) = some 1) (hv : v.cells = #[v]) (h1 : v.oneCell' = true) (hn : o < (blkOf W b).length) :
    (Instr.storeAt ty (.pointer (some ⟨b, o, none⟩)) v).run Try.prog W = .ok () (put W b o [v]) := by
  have ht := blk_there o 1 (by omega) (by omega : o + 1 ≤ (blkOf W b).length)
  have := run_storeCells_cells (P := Try.prog) b o [v] 0 W (fun j hj => by simpa using (ht j (by simpa using hj)).1) (fun j hj => by simpa using (ht j (by simpa using hj)).2) (fun u hu => by simp at hu; subst hu; exact h1)
  cases hq : Try.prog.info? ty with
  | none => simp [hq] at hi
  | some i =>
    have hs : i.size = 1 := by simpa [hq] using hi
    simp only [Nat.add_zero] at this
    simp [Instr.storeAt, Instr.sureAddr, storeVar, sizeOf, typeInfo, hq, hv, hs, this, put]
end Go.Proofs.Qxb6002619a
