/- '==' and '!=' on keys, RDs, ESIs -/
import Derived.Test.Qxb6002605aKeyLaws
import Derived.DeepKeys
import Derived.Laws.StructEq
namespace Go.Proofs.Qxb6002605a
open Go.ChangeShapes Go.WideShapes Go.ChangeAt Go.RowKit
set_option linter.unusedVariables false

def eqA (n : Nat) (f g : Nat → Int) : Bool := decide (∀ i, i < n → f i = g i)
theorem eqA_refl (n : Nat) (f : Nat → Int) : eqA n f f = true := by unfold eqA; simp
def keyEq (t : Int) (f e : Nat → Int) (tag : Int) (m : Nat → Int) (t' : Int) (f' e' : Nat → Int) (tag' : Int) (m' : Nat → Int) : Bool :=
  (t == t') && (eqA 8 f f' && (eqA 10 e e' && ((tag == tag') && eqA 6 m m')))

theorem part5 (n : Nat) (f : Nat → Int) (i : Nat) (hi : i < n) (W : World) : (part 5 (arr n f).toArray (i * 1)).run Try.prog W = .ok (.int .u8 (f i)) W := by
  have h5 : (isAgg 5).run Try.prog W = .ok false W := by
    unfold isAgg
    rw [Sem.run_bind, run_underlying Try.underlying5 W]
    simp
  have hg : (arr n f)[i]? = some (.int .u8 (f i)) := by simp [arr, hi]
  simp [part, Sem.run_bind, h5, hg]
theorem items_arr (d n : Nat) (f g : Nat → Int) (W : World) : ∀ (is : List Nat), (∀ i ∈ is, i < n) →
    (Op.eqItems (d + 1) 5 1 (arr n f).toArray (arr n g).toArray is).run Try.prog W = .ok (decide (∀ i ∈ is, f i = g i)) W
  | [], _ => by simp [Op.eqItems]
  | i :: is, h => by
    have ih := items_arr d n f g W is (fun j hj => h j (List.mem_cons_of_mem _ hj))
    have hi := h i (List.mem_cons_self)
    simp only [Op.eqItems, Sem.run_bind, part5 n f i hi, part5 n g i hi, Result.andThen_ok, run_equalIn_int W d 5 .u8 .u8 (f i) (g i) Try.underlying5]
    by_cases e : f i = g i
    · simp [e, ih]
    · simp [e]
theorem sz5 : ∃ i, Try.prog.info? 5 = some i := info_of_underlying Try.underlying5
theorem cells5 : Try.prog.cellsOf 5 = 1 := by kernel_rfl
theorem equal_arr (ty n d : Nat) (hu : Try.prog.underlying ty = some (.array n 5)) (f g : Nat → Int) (W : World) :
    (Op.equalIn (d + 2) ty (.agg (arr n f).toArray) (.agg (arr n g).toArray)).run Try.prog W = .ok (eqA n f g) W := by
  obtain ⟨i, hi⟩ := sz5
  rw [run_equalIn_array W (d + 1) (arr n f).toArray (arr n g).toArray hu hi]
  have := items_arr d n f g W (List.range n) (by simp)
  rw [cells5]
  rw [this]
  simp [eqA]

def eqF (d : Nat) (xs ys : Array Value) : List (String × TypeId × Nat) → Sem Bool
  | [] => pure true
  | (n, t, o) :: fs =>
    if n ≠ "_" then do
      let a ← part t xs o
      let b ← part t ys o
      let r ← Op.equalIn d t a b
      if (!r) = true then pure false else eqF d xs ys fs
    else eqF d xs ys fs
theorem eqF_eq (d : Nat) (xs ys : Array Value) : ∀ fs : List Field, Op.eqFields d xs ys fs = eqF d xs ys (fs.map fun f => (f.name, f.type, f.offset))
  | [] => rfl
  | f :: fs => by
    simp only [Op.eqFields, List.map_cons, eqF]
    rw [eqF_eq d xs ys fs]
theorem flds68 : (Try.prog.fieldsOf 68).toList.map (fun f => (f.name, f.type, f.offset)) = [("Type", 58, 0), ("RD", 59, 1), ("ESI", 60, 9), ("Tag", 34, 19), ("MAC", 61, 20), ("IP", 49, 26), ("Prefix", 64, 29)] := by kernel_rfl
theorem und68 : Try.prog.underlying 68 = some (.struct (Try.prog.fieldsOf 68)) := by kernel_rfl
theorem st68h : Try.prog.stoodInHeld 68 = false := by kernel_rfl
section
variable (W : World) (t : Int) (f e : Nat → Int) (tag : Int) (m : Nat → Int)
theorem p58 : (part 58 (keyL t f e tag m).toArray 0).run Try.prog W = .ok (.int .u8 t) W := by kernel_rfl
theorem p59 : (part 59 (keyL t f e tag m).toArray 1).run Try.prog W = .ok (.agg (arr 8 f).toArray) W := by kernel_rfl
theorem p60 : (part 60 (keyL t f e tag m).toArray 9).run Try.prog W = .ok (.agg (arr 10 e).toArray) W := by kernel_rfl
theorem p34 : (part 34 (keyL t f e tag m).toArray 19).run Try.prog W = .ok (.int .u32 tag) W := by kernel_rfl
theorem p61 : (part 61 (keyL t f e tag m).toArray 20).run Try.prog W = .ok (.agg (arr 6 m).toArray) W := by kernel_rfl
theorem p49 : (part 49 (keyL t f e tag m).toArray 26).run Try.prog W = .ok (.agg ipP.toArray) W := by kernel_rfl
theorem p64 : (part 64 (keyL t f e tag m).toArray 29).run Try.prog W = .ok (.agg pfP.toArray) W := by kernel_rfl
theorem q49 : (Op.equalIn 9999 49 (.agg ipP.toArray) (.agg ipP.toArray)).run Try.prog W = .ok true W := by kernel_rfl
theorem q64 : (Op.equalIn 9999 64 (.agg pfP.toArray) (.agg pfP.toArray)).run Try.prog W = .ok true W := by kernel_rfl
end
theorem eqF_step {d : Nat} {xs ys : Array Value} {n : String} {t o : Nat} {fs : List (String × TypeId × Nat)} {W : World} {a b : Value} {r s : Bool} (hn : n ≠ "_") (ha : (part t xs o).run Try.prog W = .ok a W) (hb : (part t ys o).run Try.prog W = .ok b W)
    (hr : (Op.equalIn d t a b).run Try.prog W = .ok r W) (ih : (eqF d xs ys fs).run Try.prog W = .ok s W) : (eqF d xs ys ((n, t, o) :: fs)).run Try.prog W = .ok (r && s) W := by
  simp only [eqF, hn, ne_eq, not_false_eq_true, if_true, Sem.run_bind, ha, hb, hr, Result.andThen_ok]
  cases r
  · simp
  · simp [ih]
theorem equal_key (t : Int) (f e : Nat → Int) (tag : Int) (m : Nat → Int) (t' : Int) (f' e' : Nat → Int) (tag' : Int) (m' : Nat → Int) (W : World) :
    (Op.equalIn 10000 68 (.agg (keyL t f e tag m).toArray) (.agg (keyL t' f' e' tag' m').toArray)).run Try.prog W = .ok (keyEq t f e tag m t' f' e' tag' m') W := by
  rw [show (10000 : Nat) = 9999 + 1 from rfl, run_equalIn_struct W 9999 68 _ _ und68 st68h, eqF_eq, flds68]
  have h58 := run_equalIn_int W 9998 58 .u8 .u8 t t' Try.underlying58
  have h34 := run_equalIn_int W 9998 34 .u32 .u32 tag tag' Try.underlying34
  have h59 := equal_arr 59 8 9997 Try.underlying59 f f' W
  have h60 := equal_arr 60 10 9997 Try.underlying60 e e' W
  have h61 := equal_arr 61 6 9997 Try.underlying61 m m' W
  have hz : (eqF 9999 (keyL t f e tag m).toArray (keyL t' f' e' tag' m').toArray [("IP", 49, 26), ("Prefix", 64, 29)]).run Try.prog W = .ok true W :=
    eqF_step (r := true) (s := true) (by decide) (p49 ..) (p49 ..) (q49 W) (eqF_step (r := true) (s := true) (by decide) (p64 ..) (p64 ..) (q64 W) (by simp [eqF]))
  have := eqF_step (n := "Type") (by decide) (p58 W t f e tag m) (p58 W t' f' e' tag' m') h58
    (eqF_step (n := "RD") (by decide) (p59 ..) (p59 ..) h59 (eqF_step (n := "ESI") (by decide) (p60 ..) (p60 ..) h60
      (eqF_step (n := "Tag") (by decide) (p34 ..) (p34 ..) h34 (eqF_step (n := "MAC") (by decide) (p61 ..) (p61 ..) h61 hz))))
  rw [this]
  simp [keyEq]

/-! ### as the walk meets them -/
def cmpI (op : BinOp) (ty : TypeId) (x y : Operand) (a b : Value) : Sem Value := do eqGuard op ty x y a b; binOp op ty a b
theorem ex_bin (ρ : Operand → Value) (dst : Option Tmp) (op : BinOp) (t : TypeId) (x y : Operand) (r : TypeId) (ty : TypeId) (pos : String) (after : Array Edge) (guard : Option (Nat × Bool)) :
    execOp ρ ⟨dst, .binOp op t x y r, ty, pos, after, guard⟩ = (do pure (.value (← cmpI op t x y (ρ x) (ρ y)))) := rfl
theorem ex_bin68 (ρ : Operand → Value) (dst : Option Tmp) (op : BinOp) (x y : Operand) (r : TypeId) (ty : TypeId) (pos : String) (after : Array Edge) (guard : Option (Nat × Bool)) :
    execOp ρ ⟨dst, .binOp op 68 x y r, ty, pos, after, guard⟩ = (do pure (.value (← cmpI op 68 x y (ρ x) (ρ y)))) := rfl
theorem ex_bin59 (ρ : Operand → Value) (dst : Option Tmp) (op : BinOp) (x y : Operand) (r : TypeId) (ty : TypeId) (pos : String) (after : Array Edge) (guard : Option (Nat × Bool)) :
    execOp ρ ⟨dst, .binOp op 59 x y r, ty, pos, after, guard⟩ = (do pure (.value (← cmpI op 59 x y (ρ x) (ρ y)))) := rfl
theorem ex_bin60 (ρ : Operand → Value) (dst : Option Tmp) (op : BinOp) (x y : Operand) (r : TypeId) (ty : TypeId) (pos : String) (after : Array Edge) (guard : Option (Nat × Bool)) :
    execOp ρ ⟨dst, .binOp op 60 x y r, ty, pos, after, guard⟩ = (do pure (.value (← cmpI op 60 x y (ρ x) (ρ y)))) := rfl
theorem g68 : Try.prog.eqGuardType Try.prog.depth 68 = false := by kernel_rfl
theorem g59 : Try.prog.eqGuardType Try.prog.depth 59 = false := by kernel_rfl
theorem g60 : Try.prog.eqGuardType Try.prog.depth 60 = false := by kernel_rfl
section
variable (W : World) (x y : Operand) (t : Int) (f e : Nat → Int) (tag : Int) (m : Nat → Int) (t' : Int) (f' e' : Nat → Int) (tag' : Int) (m' : Nat → Int)
theorem neq68 : (cmpI .neq 68 x y (.agg (keyL t f e tag m).toArray) (.agg (keyL t' f' e' tag' m').toArray)).run Try.prog W = .ok (.bool (!keyEq t f e tag m t' f' e' tag' m')) W := by
  simp only [cmpI, Sem.run_bind, run_eqGuard_agg W .neq 68 x y _ _ g68, Result.andThen_ok, run_neq_struct, equal_key]
theorem eql68 : (cmpI .eql 68 x y (.agg (keyL t f e tag m).toArray) (.agg (keyL t' f' e' tag' m').toArray)).run Try.prog W = .ok (.bool (keyEq t f e tag m t' f' e' tag' m')) W := by
  simp only [cmpI, Sem.run_bind, run_eqGuard_agg W .eql 68 x y _ _ g68, Result.andThen_ok, run_eql_struct, equal_key]
theorem neq59 : (cmpI .neq 59 x y (.agg (arr 8 f).toArray) (.agg (arr 8 f').toArray)).run Try.prog W = .ok (.bool (!eqA 8 f f')) W := by
  simp only [cmpI, Sem.run_bind, run_eqGuard_agg W .neq 59 x y _ _ g59, Result.andThen_ok, run_neq_struct, equal_arr 59 8 9998 Try.underlying59]
theorem eql60 : (cmpI .eql 60 x y (.agg (arr 10 e).toArray) (.agg (arr 10 e').toArray)).run Try.prog W = .ok (.bool (eqA 10 e e')) W := by
  simp only [cmpI, Sem.run_bind, run_eqGuard_agg W .eql 60 x y _ _ g60, Result.andThen_ok, run_eql_struct, equal_arr 60 10 9998 Try.underlying60]
end
end Go.Proofs.Qxb6002605a
