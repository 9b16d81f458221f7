/- The cells of a Key and of a Route; loads and stores of their fields, one step each -/
import Derived.Test.Qxb6002605aBlk
namespace Go.Proofs.Qxb6002605a
open Go.ChangeShapes Go.WideShapes Go.ChangeAt Go.RowKit
set_option linter.unusedVariables false

def arr (n : Nat) (f : Nat → Int) : List Value := (List.range n).map fun i => .int .u8 (f i)
def zf : Nat → Int := fun _ => 0
def tailZ : List Value := [.int .u64 0, .int .u64 0, .pointer none, .int .u64 0, .int .u64 0, .pointer none, .int .u8 0]
def ipP : List Value := [.int .u64 0, .int .u64 0, .pointer none]
def pfP : List Value := [.int .u64 0, .int .u64 0, .pointer none, .int .u8 0]
def keyL (t : Int) (f e : Nat → Int) (tag : Int) (m : Nat → Int) : List Value :=
  .int .u8 t :: (arr 8 f ++ (arr 10 e ++ (.int .u32 tag :: (arr 6 m ++ tailZ))))
def routeL (t : Int) (f e : Nat → Int) (tag : Int) (m : Nat → Int) (l1 l2 : Int) (h : Bool) : List Value :=
  keyL t f e tag m ++ [.int .u64 0, .int .u64 0, .pointer none, .int .u32 l1, .int .u32 l2, .bool h]

theorem sz58 : (Try.prog.info? 58).map (·.size) = some 1 := by kernel_rfl
theorem sz34 : (Try.prog.info? 34).map (·.size) = some 1 := by kernel_rfl
theorem sz62 : (Try.prog.info? 62).map (·.size) = some 1 := by kernel_rfl
theorem sz4 : (Try.prog.info? 4).map (·.size) = some 1 := by kernel_rfl
theorem sz59 : (Try.prog.info? 59).map (·.size) = some 8 := by kernel_rfl
theorem sz60 : (Try.prog.info? 60).map (·.size) = some 10 := by kernel_rfl
theorem sz61 : (Try.prog.info? 61).map (·.size) = some 6 := by kernel_rfl
theorem sz49 : (Try.prog.info? 49).map (·.size) = some 3 := by kernel_rfl
theorem sz64 : (Try.prog.info? 64).map (·.size) = some 4 := by kernel_rfl
theorem sz68 : (Try.prog.info? 68).map (·.size) = some 33 := by kernel_rfl
theorem sz66 : (Try.prog.info? 66).map (·.size) = some 39 := by kernel_rfl
theorem sz39 : (Try.prog.info? 39).map (·.size) = some 8 := by kernel_rfl
theorem sz56 : (Try.prog.info? 56).map (·.size) = some 10 := by kernel_rfl
theorem sz57 : (Try.prog.info? 57).map (·.size) = some 6 := by kernel_rfl

theorem one_arr (n : Nat) (f : Nat → Int) : ∀ v ∈ arr n f, v.oneCell' = true := by
  intro v hv
  unfold arr at hv
  obtain ⟨i, _, rfl⟩ := List.mem_map.1 hv
  rfl
theorem one_key (t : Int) (f e : Nat → Int) (tag : Int) (m : Nat → Int) : ∀ v ∈ keyL t f e tag m, v.oneCell' = true := by
  intro v hv
  unfold keyL tailZ at hv
  simp only [List.mem_cons, List.mem_append] at hv
  rcases hv with rfl | hv | hv | rfl | hv | rfl | rfl | rfl | rfl | rfl | rfl | rfl | hv
  all_goals first | rfl | (exact one_arr _ _ _ hv) | (cases hv)
theorem one_route (t : Int) (f e : Nat → Int) (tag : Int) (m : Nat → Int) (l1 l2 : Int) (h : Bool) : ∀ v ∈ routeL t f e tag m l1 l2 h, v.oneCell' = true := by
  intro v hv
  unfold routeL at hv
  simp only [List.mem_cons, List.mem_append] at hv
  rcases hv with hv | rfl | rfl | rfl | rfl | rfl | rfl | hv
  all_goals first | rfl | (exact one_key _ _ _ _ _ _ hv) | (cases hv)

/-! the operations under names that the walk does not open -/
def ldI (ty : TypeId) (v : Value) : Sem Value := Instr.loadAt ty v
def stI (ty : TypeId) (a v : Value) : Sem Unit := Instr.storeAt ty a v
def alI (ty : TypeId) : Sem Value := Instr.alloc ty true (.tuple #[])
def buI (ty : TypeId) (ps : Array (Nat × Value)) : Sem Value := Instr.build ty ps
theorem ex_load (ρ : Operand → Value) (dst : Option Tmp) (t : TypeId) (x : Operand) (ty : TypeId) (pos : String) (after : Array Edge) (guard : Option (Nat × Bool)) :
    execOp ρ ⟨dst, .load t x, ty, pos, after, guard⟩ = (do pure (.value (← ldI t (ρ x)))) := rfl
theorem ex_store (ρ : Operand → Value) (dst : Option Tmp) (t : TypeId) (x y : Operand) (ty : TypeId) (pos : String) (after : Array Edge) (guard : Option (Nat × Bool)) :
    execOp ρ ⟨dst, .store t x y, ty, pos, after, guard⟩ = (do stI t (ρ x) (ρ y); pure .skip) := rfl
theorem ex_alloc (ρ : Operand → Value) (dst : Option Tmp) (t : TypeId) (ty : TypeId) (pos : String) (after : Array Edge) (guard : Option (Nat × Bool)) :
    execOp ρ ⟨dst, .alloc t, ty, pos, after, guard⟩ = (do pure (.value (← alI t))) := rfl
theorem ex_build (ρ : Operand → Value) (dst : Option Tmp) (t : TypeId) (ps : Array (Nat × Operand)) (ty : TypeId) (pos : String) (after : Array Edge) (guard : Option (Nat × Bool)) :
    execOp ρ ⟨dst, .build t ps, ty, pos, after, guard⟩ = (do pure (.value (← buI t (ps.map fun (i, x) => (i, ρ x))))) := rfl
theorem setCells_put (W : World) (b o : Nat) (X : List Value) : W.setCells b o X = put W b o X := rfl
section
variable (W : World) (b o : Nat) (t : Int) (f e : Nat → Int) (tag : Int) (m : Nat → Int) (l1 l2 : Int) (h : Bool)
/-! making -/
theorem alloc68 : (alI 68).run Try.prog W = .ok (.pointer (some ⟨W.heap.size, 0, none⟩)) (W.alloc (.cells (keyL 0 zf zf 0 zf).toArray 68)) := by kernel_rfl
theorem alloc66 : (alI 66).run Try.prog W = .ok (.pointer (some ⟨W.heap.size, 0, none⟩)) (W.alloc (.cells (routeL 0 zf zf 0 zf 0 0 false).toArray 66)) := by kernel_rfl
theorem build68 : (buI 68 #[(0, .int .u8 t), (1, .agg (arr 8 f).toArray)]).run Try.prog W = .ok (.agg (keyL t f zf 0 zf).toArray) W := by kernel_rfl
theorem build66a : (buI 66 #[(0, .int .u8 t), (1, .agg (arr 8 f).toArray), (2, .agg (arr 10 e).toArray), (3, .int .u32 tag), (4, .agg (arr 6 m).toArray), (8, .int .u32 l1), (9, .int .u32 l2), (10, .bool h)]).run Try.prog W = .ok (.agg (routeL t f e tag m l1 l2 h).toArray) W := by kernel_rfl
theorem build66b : (buI 66 #[(0, .int .u8 t), (1, .agg (arr 8 f).toArray), (2, .agg (arr 10 e).toArray), (3, .int .u32 tag), (4, .agg (arr 6 m).toArray), (5, .agg ipP.toArray), (6, .agg pfP.toArray)]).run Try.prog W = .ok (.agg (routeL t f e tag m 0 0 false).toArray) W := by kernel_rfl
/-! loads -/
theorem ld58 (hn : o < (blkOf W b).length) : (ldI 58 (.pointer (some ⟨b, o, none⟩))).run Try.prog W = .ok (at_ (blkOf W b) o) W := load_one 58 o _ Try.underlying58 rfl hn
theorem ld34 (hn : o < (blkOf W b).length) : (ldI 34 (.pointer (some ⟨b, o, none⟩))).run Try.prog W = .ok (at_ (blkOf W b) o) W := load_one 34 o _ Try.underlying34 rfl hn
theorem ld59 (hn : o + 8 ≤ (blkOf W b).length) : (ldI 59 (.pointer (some ⟨b, o, none⟩))).run Try.prog W = .ok (.agg (cut (blkOf W b) o 8).toArray) W := load_row 59 o 8 _ Try.underlying59 rfl sz59 (by decide) hn
theorem ld60 (hn : o + 10 ≤ (blkOf W b).length) : (ldI 60 (.pointer (some ⟨b, o, none⟩))).run Try.prog W = .ok (.agg (cut (blkOf W b) o 10).toArray) W := load_row 60 o 10 _ Try.underlying60 rfl sz60 (by decide) hn
theorem ld61 (hn : o + 6 ≤ (blkOf W b).length) : (ldI 61 (.pointer (some ⟨b, o, none⟩))).run Try.prog W = .ok (.agg (cut (blkOf W b) o 6).toArray) W := load_row 61 o 6 _ Try.underlying61 rfl sz61 (by decide) hn
theorem ld49 (hn : o + 3 ≤ (blkOf W b).length) : (ldI 49 (.pointer (some ⟨b, o, none⟩))).run Try.prog W = .ok (.agg (cut (blkOf W b) o 3).toArray) W := load_row 49 o 3 _ Try.underlying49 rfl sz49 (by decide) hn
theorem ld64 (hn : o + 4 ≤ (blkOf W b).length) : (ldI 64 (.pointer (some ⟨b, o, none⟩))).run Try.prog W = .ok (.agg (cut (blkOf W b) o 4).toArray) W := load_row 64 o 4 _ Try.underlying64 rfl sz64 (by decide) hn
theorem ld68 (hn : o + 33 ≤ (blkOf W b).length) : (ldI 68 (.pointer (some ⟨b, o, none⟩))).run Try.prog W = .ok (.agg (cut (blkOf W b) o 33).toArray) W := load_row 68 o 33 _ Try.underlying68 rfl sz68 (by decide) hn
theorem ld66 (hn : o + 39 ≤ (blkOf W b).length) : (ldI 66 (.pointer (some ⟨b, o, none⟩))).run Try.prog W = .ok (.agg (cut (blkOf W b) o 39).toArray) W := load_row 66 o 39 _ Try.underlying66 rfl sz66 (by decide) hn
theorem ld39 (hn : o + 8 ≤ (blkOf W b).length) : (ldI 39 (.pointer (some ⟨b, o, none⟩))).run Try.prog W = .ok (.agg (cut (blkOf W b) o 8).toArray) W := load_row 39 o 8 _ Try.underlying39 rfl sz39 (by decide) hn
theorem ld56 (hn : o + 10 ≤ (blkOf W b).length) : (ldI 56 (.pointer (some ⟨b, o, none⟩))).run Try.prog W = .ok (.agg (cut (blkOf W b) o 10).toArray) W := load_row 56 o 10 _ Try.underlying56 rfl sz56 (by decide) hn
theorem ld57 (hn : o + 6 ≤ (blkOf W b).length) : (ldI 57 (.pointer (some ⟨b, o, none⟩))).run Try.prog W = .ok (.agg (cut (blkOf W b) o 6).toArray) W := load_row 57 o 6 _ Try.underlying57 rfl sz57 (by decide) hn
/-- as the function's end reads its result -/
theorem lv68 (hn : o + 33 ≤ (blkOf W b).length) : (loadVar 68 ⟨b, o, none⟩).run Try.prog W = .ok (.agg (cut (blkOf W b) o 33).toArray) W :=
  run_loadVar_mid W b o 68 _ _ (blk_range o 33 (by omega)) Try.underlying68 rfl (by rw [sz68]; unfold cut; simp; omega)
/-! stores -/
theorem st60 (hn : o + 10 ≤ (blkOf W b).length) : (stI 60 (.pointer (some ⟨b, o, none⟩)) (.agg (arr 10 e).toArray)).run Try.prog W = .ok () (put W b o (arr 10 e)) := store_row 60 o 10 _ sz60 (by decide) rfl (one_arr _ _) hn
theorem st61 (hn : o + 6 ≤ (blkOf W b).length) : (stI 61 (.pointer (some ⟨b, o, none⟩)) (.agg (arr 6 m).toArray)).run Try.prog W = .ok () (put W b o (arr 6 m)) := store_row 61 o 6 _ sz61 (by decide) rfl (one_arr _ _) hn
theorem st49 (hn : o + 3 ≤ (blkOf W b).length) : (stI 49 (.pointer (some ⟨b, o, none⟩)) (.agg ipP.toArray)).run Try.prog W = .ok () (put W b o ipP) := store_row 49 o 3 _ sz49 (by decide) rfl (by decide) hn
theorem st64 (hn : o + 4 ≤ (blkOf W b).length) : (stI 64 (.pointer (some ⟨b, o, none⟩)) (.agg pfP.toArray)).run Try.prog W = .ok () (put W b o pfP) := store_row 64 o 4 _ sz64 (by decide) rfl (by decide) hn
theorem st68 (hn : o + 33 ≤ (blkOf W b).length) : (stI 68 (.pointer (some ⟨b, o, none⟩)) (.agg (keyL t f e tag m).toArray)).run Try.prog W = .ok () (put W b o (keyL t f e tag m)) := store_row 68 o 33 _ sz68 (by decide) rfl (one_key _ _ _ _ _) hn
theorem st66 (hn : o + 39 ≤ (blkOf W b).length) : (stI 66 (.pointer (some ⟨b, o, none⟩)) (.agg (routeL t f e tag m l1 l2 h).toArray)).run Try.prog W = .ok () (put W b o (routeL t f e tag m l1 l2 h)) := store_row 66 o 39 _ sz66 (by decide) rfl (one_route _ _ _ _ _ _ _ _) hn
theorem st34 (n : Int) (hn : o < (blkOf W b).length) : (stI 34 (.pointer (some ⟨b, o, none⟩)) (.int .u32 n)).run Try.prog W = .ok () (put W b o [.int .u32 n]) := store_one 34 o _ sz34 rfl rfl hn
theorem st62 (n : Int) (hn : o < (blkOf W b).length) : (stI 62 (.pointer (some ⟨b, o, none⟩)) (.int .u32 n)).run Try.prog W = .ok () (put W b o [.int .u32 n]) := store_one 62 o _ sz62 rfl rfl hn
theorem st4 (hn : o < (blkOf W b).length) : (stI 4 (.pointer (some ⟨b, o, none⟩)) (.bool h)).run Try.prog W = .ok () (put W b o [.bool h]) := store_one 4 o _ sz4 rfl rfl hn
/-! lengths, parts -/
theorem len_arr (n : Nat) : (arr n f).length = n := by simp [arr]
theorem len_key : (keyL t f e tag m).length = 33 := rfl
theorem len_route : (routeL t f e tag m l1 l2 h).length = 39 := rfl
theorem k0 : at_ (keyL t f e tag m) 0 = .int .u8 t := rfl
theorem k1 : cut (keyL t f e tag m) 1 8 = arr 8 f := rfl
theorem k2 : cut (keyL t f e tag m) 9 10 = arr 10 e := rfl
theorem k3 : at_ (keyL t f e tag m) 19 = .int .u32 tag := rfl
theorem k4 : cut (keyL t f e tag m) 20 6 = arr 6 m := rfl
theorem k5 : cut (keyL t f e tag m) 26 3 = ipP := rfl
theorem k6 : cut (keyL t f e tag m) 29 4 = pfP := rfl
theorem kk : cut (keyL t f e tag m) 0 33 = keyL t f e tag m := rfl
theorem r0 : at_ (routeL t f e tag m l1 l2 h) 0 = .int .u8 t := rfl
theorem r1 : cut (routeL t f e tag m l1 l2 h) 1 8 = arr 8 f := rfl
theorem r2 : cut (routeL t f e tag m l1 l2 h) 9 10 = arr 10 e := rfl
theorem r3 : at_ (routeL t f e tag m l1 l2 h) 19 = .int .u32 tag := rfl
theorem r4 : cut (routeL t f e tag m l1 l2 h) 20 6 = arr 6 m := rfl
theorem r5 : cut (routeL t f e tag m l1 l2 h) 26 3 = ipP := rfl
theorem r6 : cut (routeL t f e tag m l1 l2 h) 29 4 = pfP := rfl
theorem rr : cut (routeL t f e tag m l1 l2 h) 0 39 = routeL t f e tag m l1 l2 h := rfl
theorem a8 : cut (arr 8 f) 0 8 = arr 8 f := rfl
theorem a10 : cut (arr 10 f) 0 10 = arr 10 f := rfl
theorem a6 : cut (arr 6 f) 0 6 = arr 6 f := rfl
/-! stored over -/
theorem ov_key (t' : Int) (f' e' : Nat → Int) (tag' : Int) (m' : Nat → Int) : over (keyL t f e tag m) 0 (keyL t' f' e' tag' m') = keyL t' f' e' tag' m' := by kernel_rfl
theorem ov_route (t' : Int) (f' e' : Nat → Int) (tag' : Int) (m' : Nat → Int) (l1' l2' : Int) (h' : Bool) : over (routeL t f e tag m l1 l2 h) 0 (routeL t' f' e' tag' m' l1' l2' h') = routeL t' f' e' tag' m' l1' l2' h' := by kernel_rfl
theorem ov_k2 (e' : Nat → Int) : over (keyL t f e tag m) 9 (arr 10 e') = keyL t f e' tag m := by kernel_rfl
theorem ov_k3 (n : Int) : over (keyL t f e tag m) 19 [.int .u32 n] = keyL t f e n m := by kernel_rfl
theorem ov_k4 (m' : Nat → Int) : over (keyL t f e tag m) 20 (arr 6 m') = keyL t f e tag m' := by kernel_rfl
theorem ov_k5 : over (keyL t f e tag m) 26 ipP = keyL t f e tag m := by kernel_rfl
theorem ov_k6 : over (keyL t f e tag m) 29 pfP = keyL t f e tag m := by kernel_rfl
theorem ov_r2 (e' : Nat → Int) : over (routeL t f e tag m l1 l2 h) 9 (arr 10 e') = routeL t f e' tag m l1 l2 h := by kernel_rfl
theorem ov_r8 (n : Int) : over (routeL t f e tag m l1 l2 h) 36 [.int .u32 n] = routeL t f e tag m n l2 h := by kernel_rfl
theorem ov_r9 (n : Int) : over (routeL t f e tag m l1 l2 h) 37 [.int .u32 n] = routeL t f e tag m l1 n h := by kernel_rfl
theorem ov_r10 (c : Bool) : over (routeL t f e tag m l1 l2 h) 38 [.bool c] = routeL t f e tag m l1 l2 c := by kernel_rfl
end
end Go.Proofs.Qxb6002605a
