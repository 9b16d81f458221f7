/- slices.Insert of one diagnostic -/
import Derived.Test.Qxb6002619aDiag
import Derived.Laws.MakeOwn
import Derived.Laws.IdiomCopy
import Derived.Laws.Externs
import Derived.ArgAppend
import Derived.Lib.AppendZeros
import Derived.Lib.AppendZerosOnto
import Derived.Lib.Overlaps
import Derived.Deep.RegionLaw
namespace Go.Proofs.Qxb6002619a
open Go.ChangeShapes Go.WideShapes Go.ChangeAt Go.RowKit
set_option linter.unusedVariables false
set_option linter.unusedSimpArgs false

theorem info28 : ∃ i, Try.prog.info? 28 = some i ∧ i.zero = some (.agg (c4 zD).toArray) ∧ i.size = 4 ∧ i.bytes = 40 := by
  have h : (Try.prog.info? 28).map (fun i => (i.zero, i.size, i.bytes)) = some (some (.agg (c4 zD).toArray), 4, 40) := by kernel_rfl
  cases hq : Try.prog.info? 28 with
  | none => simp [hq] at h
  | some i => simp [hq] at h; exact ⟨i, rfl, h.1, h.2.1, h.2.2⟩
theorem zeros_row (n : Nat) : Builtin.zeroCells (c4 zD).toArray n = (row (List.replicate n zD)).toArray := by
  apply Array.ext
  · simp [Builtin.zeroCells, len_row, c4]
  · intro i h1 h2
    have hi : i < n * 4 := by simpa [Builtin.zeroCells, c4] using h1
    have hg := get_row (List.replicate n zD) (i / 4) (by simp; omega)
    have hz : (List.replicate n zD).getD (i / 4) zD = zD := by simp [List.getD_eq_getElem?_getD, List.getElem?_replicate]; split <;> rfl
    rw [hz] at hg
    have h4 : i % 4 < 4 := Nat.mod_lt _ (by decide)
    have e : i = i / 4 * 4 + i % 4 := by omega
    have hr : (row (List.replicate n zD))[i]? = some (((c4 zD).toArray)[i % 4]!) := by
      generalize i % 4 = r at *
      rw [e]
      match r, h4 with
      | 0, _ => exact hg.1
      | 1, _ => exact hg.2.1
      | 2, _ => exact hg.2.2.1
      | 3, _ => exact hg.2.2.2
    have hl : (row (List.replicate n zD))[i] = ((c4 zD).toArray)[i % 4]! := by
      have := List.getElem?_eq_getElem (l := row (List.replicate n zD)) (i := i) (by simpa using h2)
      rw [this] at hr
      exact Option.some.inj hr
    simp only [List.getElem_toArray]
    rw [hl]
    simp [Builtin.zeroCells, c4]

/-- nothing but block b has turned, of what was there -/
structure Kept (b : Nat) (w w' : World) : Prop where
  os : w'.os = w.os
  tape : w'.tape = w.tape
  output : w'.output = w.output
  size : w.heap.size ≤ w'.heap.size
  block : ∀ k, k < w.heap.size → k ≠ b → w'.heap[k]? = w.heap[k]?
theorem Kept.refl (b : Nat) (w : World) : Kept b w w := ⟨rfl, rfl, rfl, Nat.le_refl _, fun _ _ _ => rfl⟩
theorem Kept.trans {b : Nat} {w w1 w2 : World} (h : Kept b w w1) (k : Kept b w1 w2) : Kept b w w2 :=
  ⟨k.os.trans h.os, k.tape.trans h.tape, k.output.trans h.output, Nat.le_trans h.size k.size, fun i hi hb => (k.block i (Nat.lt_of_lt_of_le hi h.size) hb).trans (h.block i hi hb)⟩
theorem Kept.drew {b : Nat} {w w1 : World} (h : Kept b w w1) : Kept b w w1.drew := ⟨h.os, h.tape, h.output, h.size, h.block⟩
theorem Kept.ofBelow {b : Nat} {w w1 : World} (h : Below w.heap.size w w1) : Kept b w w1 := ⟨h.os, h.tape, h.output, h.size, fun k hk _ => h.block k hk⟩
theorem Kept.alloc {b : Nat} {w w1 : World} (h : Kept b w w1) (o : Obj) : Kept b w (w1.alloc o) := h.trans (Kept.ofBelow ((Below.refl _ _).alloc (Nat.le_refl _) _))
theorem Kept.put1 (b : Nat) : ∀ (X : List Value) (w : World) (o : Nat), Kept b w (put w b o X)
  | [], w, o => Kept.refl b w
  | v :: r, w, o => Kept.trans (w1 := w.setCell ⟨b, o, none⟩ v) ⟨rfl, rfl, rfl, by simp [World.setCell], fun k _ hb => Below.heap_setCell _ _ _ _ hb⟩ (Kept.put1 b r _ (o + 1))
theorem Kept.put {b : Nat} {w w1 : World} (h : Kept b w w1) (o : Nat) (X : List Value) : Kept b w (Qxb6002619a.put w1 b o X) := h.trans (Kept.put1 b X w1 o)
theorem Kept.putNew {b nb : Nat} {w w1 : World} (h : Kept b w w1) (hn : w.heap.size ≤ nb) (o : Nat) (X : List Value) : Kept b w (Qxb6002619a.put w1 nb o X) :=
  let k := Kept.put1 nb X w1 o
  ⟨k.os.trans h.os, k.tape.trans h.tape, k.output.trans h.output, Nat.le_trans h.size k.size, fun i hi hb => (k.block i (Nat.lt_of_lt_of_le hi h.size) (by omega)).trans (h.block i hi hb)⟩
theorem Kept.blk {b k : Nat} {w w1 : World} (h : Kept b w w1) (hk : k < w.heap.size) (hb : k ≠ b) : blkOf w1 k = blkOf w k := blk_of_block (h.block k hk hb)
theorem Kept.below {b B : Nat} {w w1 : World} (h : Kept b w w1) (hB : B ≤ b) (hB2 : B ≤ w.heap.size) : Below B w w1 := ⟨h.os, h.tape, h.output, h.size, fun k hk => h.block k (by omega) (by omega)⟩

/-! ### copy, append, as operations whose run is known -/
theorem wp_copy_run (w : World) {o : Oper} {a : Act} {K : Act → World → Prop} {Q : Exit → Act → World → Prop} (d s : Operand) (t t' : TypeId)
    (ho : o.op = .call { callee := .builtin .copy, args := #[d, s], argTypes := #[t, t'] }) (v u : Value) (hd : a.eval d = v) (hs : a.eval s = u) {v' : Value} {w' : World}
    (hr : (Builtin.copy_ #[t, t'] o.type #[v, u]).run Try.prog w = .ok v' w') (h : K (a.put o.dst v') w') : o.wp Try.prog a w K Q := by
  unfold Oper.wp execOp
  simp only [ho, resolve, invoke, builtin, Sem.run_bind, Sem.run_pure, Result.andThen_ok, List.map_toArray, List.map_cons, List.map_nil, hd, hs, hr]
  exact h
theorem wpList_copy_run (w : World) {ops : Array Oper} {rest : List Oper} {o : Oper} {a : Act} {Q : Exit → Act → World → Prop} (hgd : o.guard = none) (d s : Operand) (t t' : TypeId)
    (ho : o.op = .call { callee := .builtin .copy, args := #[d, s], argTypes := #[t, t'] }) (v u : Value) (hd : a.eval d = v) (hs : a.eval s = u) {v' : Value} {w' : World}
    (hr : (Builtin.copy_ #[t, t'] o.type #[v, u]).run Try.prog w = .ok v' w') (h : wpList Try.prog ops Q rest (a.put o.dst v') w') : wpList Try.prog ops Q (o :: rest) a w :=
  wpList_plain hgd fun _ hK => wp_copy_run w d s t t' ho v u hd hs hr (hK _ _ h)
theorem step_copy_run {ops : Array Oper} {o : Oper} {a : Act} {w : World} {K : Act → World → Prop} {Q : Exit → Act → World → Prop} {E : Prop} (hg : o.guard = none) (d s : Operand) (t t' : TypeId)
    (ho : o.op = .call { callee := .builtin .copy, args := #[d, s], argTypes := #[t, t'] }) (v u : Value) (hd : a.eval d = v) (hs : a.eval s = u) {v' : Value} {w' : World}
    (hr : (Builtin.copy_ #[t, t'] o.type #[v, u]).run Try.prog w = .ok v' w') (h : K (a.put o.dst v') w') : if Region.wanted o (yielded ops a.tmps) = true then Oper.wp Try.prog o a w K Q else E := by
  have hw : Region.wanted o (yielded ops a.tmps) = true := by simp [Region.wanted, hg]
  rw [if_pos hw]
  exact wp_copy_run w d s t t' ho v u hd hs hr h
/-- copy between (or within) blocks that hold diagnostics -/
theorem run_copy_blk (W : World) (ty b o dLen dCap sb so sLen sCap n : Nat) (hn : n = Nat.min sLen dLen) (h0 : 0 < n) (hs : so + n * 4 ≤ (blkOf W sb).length) (hd : o + n * 4 ≤ (blkOf W b).length) (h1 : ∀ v ∈ cut (blkOf W sb) so (n * 4), v.oneCell' = true) :
    (Builtin.copy_ #[22, 22] ty #[.slice (some ⟨b, o, none⟩) dLen dCap, .slice (some ⟨sb, so, none⟩) sLen sCap]).run Try.prog W = .ok (goInt n) (put W b o (cut (blkOf W sb) so (n * 4))) := by
  obtain ⟨i, hi, hz, hsz, hb⟩ := info28
  have hlen : (cut (blkOf W sb) so (n * 4)).length = n * 4 := by unfold cut; simp; omega
  have hl := run_loadCells_list (P := Try.prog) W ⟨sb, so, none⟩ (cut (blkOf W sb) so (n * 4)) (fun j v hj => by
    rw [Addr.add_mid]; exact blk_range so (n * 4) (by omega) j v hj)
  rw [hlen] at hl
  have ht := blk_there (W := W) (b := b) o (n * 4) (by omega) hd
  have hst := run_storeCells_cells (P := Try.prog) b o (cut (blkOf W sb) so (n * 4)) 0 W (fun j hj => by simpa using (ht j (by omega)).1) (fun j hj => by simpa using (ht j (by omega)).2) h1
  simp only [Nat.add_zero] at hst
  simp [Builtin.copy_, run_underlying Try.underlying22, Builtin.lenOf, Builtin.firstCells, sizeOf, typeInfo, hi, hsz, ← hn, hl, hst, put]

def InsPost (S : List Dg) (i : Nat) (d : Dg) (b : Nat) (w : World) (e : Ending) (w' : World) : Prop :=
  ∃ b' cap xs, e = .returned (.slice (some ⟨b', 0, none⟩) (S.length + 1) cap) ∧ blkOf w' b' = row xs ∧ xs.length = cap ∧ cap ≤ 9223372036854775807 ∧ xs.take (S.length + 1) = S.take i ++ [d] ++ S.drop i ∧ (b' = b ∨ w.heap.size ≤ b') ∧ Kept b w w'
end Go.Proofs.Qxb6002619a
