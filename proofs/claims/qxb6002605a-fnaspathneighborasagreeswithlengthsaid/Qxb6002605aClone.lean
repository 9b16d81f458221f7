/- the clones, zzBuildPath -/
import Derived.Test.Qxb6002605aPath
import Derived.Laws.MakeOwn
import Derived.ArgAppend
import Derived.WalkSpells
namespace Go.Proofs.Qxb6002605a
open Go.ChangeShapes Go.WideShapes Go.ChangeAt Go.RowKit
set_option linter.unusedVariables false
set_option linter.unusedSimpArgs false

def arrK (kd : IntKind) (n : Nat) (f : Nat → Int) : List Value := (List.range n).map fun i => .int kd (f i)
def zfK : Nat → Int := fun _ => 0
theorem lenK (kd : IntKind) (n : Nat) (f : Nat → Int) : (arrK kd n f).length = n := by simp [arrK]
theorem getK (kd : IntKind) (n : Nat) (f : Nat → Int) (k : Nat) (h : k < n) : (arrK kd n f)[k]? = some (.int kd (f k)) := by simp [arrK, h]
theorem congrK {kd : IntKind} {n : Nat} {f g : Nat → Int} (h : ∀ j, j < n → f j = g j) : arrK kd n f = arrK kd n g := by
  unfold arrK
  apply List.map_congr_left
  intro i hi
  rw [h i (by simpa using hi)]
theorem setK (kd : IntKind) (n : Nat) (g : Nat → Int) (k : Nat) (x : Int) : (arrK kd n g).set k (.int kd x) = arrK kd n (fun j => if j = k then x else g j) := by
  apply List.ext_getElem?
  intro i
  by_cases hi : i < n
  · by_cases e : k = i
    · subst e; simp [arrK, hi]
    · have e' : ¬ i = k := fun h => e h.symm
      simp [arrK, hi, e, e', List.getElem?_set]
  · have h1 : (arrK kd n (fun j => if j = k then x else g j))[i]? = none := by simp [arrK]; omega
    have h2 : ((arrK kd n g).set k (.int kd x))[i]? = none := by simp [arrK]; omega
    rw [h1, h2]
theorem madeK (kd : IntKind) (n : Nat) : madeCells #[.int kd 0] n = (arrK kd n zfK).toArray := by
  apply Array.ext
  · simp [madeCells, arrK]
  · intro i h1 h2
    simp [madeCells, arrK, zfK, Nat.mod_one]
theorem mkK (t e : TypeId) (kd : IntKind) (by_ : Nat) (hu : Try.prog.underlying t = some (.slice e)) (hi : (Try.prog.info? e).map (fun i => (i.zero, i.size, i.bytes)) = some (some (.int kd 0), 1, by_)) (hb : by_ ≤ 8) (n : Nat) (hn : n ≤ 1048576) (W : World) :
    (Instr.makeSlice t (.int .i64 (n : Int)) (.int .i64 (n : Int))).run Try.prog W = .ok (.slice (some ⟨W.heap.size, 0, none⟩) n n) (W.alloc (.cells (arrK kd n zfK).toArray e)) := by
  cases hq : Try.prog.info? e with
  | none => simp [hq] at hi
  | some i =>
    simp [hq] at hi
    obtain ⟨hz, hs, hby⟩ := hi
    have := run_make (P := Try.prog) W t e i _ hu hq hz .i64 .i64 (n : Int) (n : Int) (by omega) (by omega) (by rw [hby]; have : (by_ : Int) * (n : Int) ≤ 8 * 1048576 := Int.mul_le_mul (by omega) (by omega) (by omega) (by omega); omega) (by omega)
    simp only [Int.toNat_natCast, hs, Nat.mul_one] at this
    rw [this]
    show Result.ok _ (W.alloc (.cells (madeCells #[.int kd 0] n) e)) = _
    rw [madeK]
/-- block W.heap.size (laid at W) holds what was copied by k rounds -/
def KInv (kd : IntKind) (W : World) (n : Nat) (f : Nat → Int) (k : Nat) (wr : World) : Prop :=
  (∃ g, blkOf wr W.heap.size = arrK kd n g ∧ ∀ j, j < k → g j = f j) ∧ Below W.heap.size W wr ∧ W.heap.size < wr.heap.size
theorem KInv_start (kd : IntKind) (W : World) (n : Nat) (f : Nat → Int) (e : TypeId) : KInv kd W n f 0 (W.alloc (.cells (arrK kd n zfK).toArray e)) :=
  ⟨⟨zfK, by rw [blk_alloc, if_pos rfl], fun j hj => absurd hj (Nat.not_lt_zero j)⟩, (Below.refl _ _).alloc (Nat.le_refl _) _, by simp⟩
theorem KInv_step (kd : IntKind) (W : World) (n : Nat) (f : Nat → Int) (k : Nat) (wr : World) (h : KInv kd W n f k wr) : KInv kd W n f (k + 1) (wr.setCell ⟨W.heap.size, k, none⟩ (.int kd (f k))) := by
  obtain ⟨⟨g, h1, h2⟩, h3, h4⟩ := h
  refine ⟨⟨fun j => if j = k then f k else g j, by rw [blk_setCell, if_pos rfl, h1, setK], fun j hj => ?_⟩, h3.setCell (p := ⟨_, _, _⟩) (Nat.le_refl _) _, by simpa [World.setCell] using h4⟩
  by_cases e : j = k
  · subst e; simp
  · simp only [if_neg e]; exact h2 j (by omega)
theorem KInv_end (kd : IntKind) (W : World) (n : Nat) (f : Nat → Int) (k : Nat) (wr : World) (h : KInv kd W n f k wr) (hk : n ≤ k) : blkOf wr W.heap.size = arrK kd n f := by
  obtain ⟨⟨g, h1, h2⟩, _⟩ := h
  rw [h1]; exact congrK fun j hj => h2 j (by omega)
theorem KInv_cell (kd : IntKind) (W : World) (n : Nat) (f : Nat → Int) (k : Nat) (wr : World) (h : KInv kd W n f k wr) (hk : k < n) : (∃ x, wr.cell? ⟨W.heap.size, k, none⟩ = some (.int kd x)) ∧ wr.frozen? ⟨W.heap.size, k, none⟩ = false := by
  obtain ⟨⟨g, h1, h2⟩, _⟩ := h
  refine ⟨⟨g k, ?_⟩, blk_frozen (by rw [h1, lenK]; omega)⟩
  rw [blk_cell (by rw [h1, lenK]; exact hk), h1]; simp [at_, getK kd n g k hk]

/-- a slice of integers that a walk may read: its numbers -/
def Src (kd : IntKind) (W : World) (a : Option Addr) (n : Nat) (f : Nat → Int) : Prop :=
  ∃ b, (0 < n → a = some ⟨b, 0, none⟩) ∧ ∀ i, i < n → W.cell? ⟨b, i, none⟩ = some (.int kd (f i))
theorem Src.below {kd : IntKind} {B : Nat} {W W' : World} {a : Option Addr} {n : Nat} {f : Nat → Int} (h : Src kd W a n f) (hb : Below B W W') (hB : W.heap.size ≤ B) : Src kd W' a n f := by
  obtain ⟨b, h1, h2⟩ := h
  refine ⟨b, h1, fun i hi => ?_⟩
  have := h2 i hi
  rw [hb.cell (p := ⟨_, _, _⟩) (Nat.lt_of_lt_of_le (World.block_lt_of_cell? _ _ this) hB)]; exact this
theorem Src_blk {kd : IntKind} {W : World} {b n : Nat} {f : Nat → Int} (h : blkOf W b = arrK kd n f) : Src kd W (some ⟨b, 0, none⟩) n f := by
  refine ⟨b, fun _ => rfl, fun i hi => ?_⟩
  rw [blk_cell (by rw [h, lenK]; exact hi), h]; simp [at_, getK kd n f i hi]

theorem mk_22 (n : Nat) (hn : n ≤ 1048576) (W : World) : (Instr.makeSlice 22 (.int .i64 (n : Int)) (.int .i64 (n : Int))).run Try.prog W = .ok (.slice (some ⟨W.heap.size, 0, none⟩) n n) (W.alloc (.cells (arrK .u8 n zfK).toArray 5)) :=
  mkK 22 5 .u8 1 Try.underlying22 (by kernel_rfl) (by decide) n hn W
set_option maxHeartbeats 800000 in
theorem clone_22 (a : Option Addr) (n c : Nat) (f : Nat → Int) (w : World) (hn : n ≤ 65536) (ha : Hid ((a = none ∧ n = 0 ∧ c = 0) ∨ ∃ b o s, a = some ⟨b, o, s⟩ ∧ (0 < n → s = none) ∧ ∀ i, i < n → w.cell? ⟨b, o + i, none⟩ = some (.int .u8 (f i)))) :
    Calls Try.prog 8 #[.slice a n c] w fun e w' => ∃ a', e = .returned (.slice a' n n) ∧ Src .u8 w' a' n f ∧ Below w.heap.size w w' := by
  have e1 := fun W a n c => Lib.run_eql_slice_nil (P := Try.prog) W 22 5 a n c 0 0 Try.underlying22
  have hn' : (n : Int) ≤ 65536 := by omega
  rcases unhide ha with ⟨rfl, rfl, rfl⟩ | ⟨b, o, s, rfl, hs, hc⟩
  · clear ha
    go_enter Try.func8, Try.ntmps8
    go_wp2
    go_ret
    exact ⟨none, rfl, ⟨0, fun h => absurd h (Nat.lt_irrefl 0), fun i hi => absurd hi (Nat.not_lt_zero i)⟩, Below.refl _ _⟩
  · have Hs := hide hs
    have Hc := hide hc
    clear ha hs hc
    have mk := fun W => mk_22 n (by omega) W
    go_enter Try.func8, Try.ntmps8
    go_wp2
    go_loopw [4] (fun i wr => ∃ k : Nat, k ≤ n ∧ i = .int .i64 k ∧ Hid (KInv .u8 w n f k wr)) (fun i _ => n - (intOf i).toNat)
    case atStart => exact ⟨0, Nat.zero_le _, rfl, hide (KInv_start _ _ _ _ _)⟩
    case round =>
      obtain ⟨k, hk, rfl, HI⟩ := hrel
      by_cases hlt : k < n
      · have es := unhide Hs (by omega)
        subst es
        have hcell : wr.cell? ⟨b, o + k, none⟩ = some (.int .u8 (f k)) := by
          have := unhide Hc k hlt
          rw [(unhide HI).2.1.cell (World.block_lt_of_cell? _ _ this)]; exact this
        obtain ⟨⟨x, hcv⟩, hfz⟩ := KInv_cell _ _ _ _ _ _ (unhide HI) hlt
        go_wp2
        go_roundw
        case rel => exact ⟨k + 1, by omega, by go_num, hide (KInv_step _ _ _ _ _ _ (unhide HI))⟩
        case measure => simp [intOf]; omega
      · go_wp2
        go_ret
        exact ⟨_, rfl, Src_blk (KInv_end _ _ _ _ _ _ (unhide HI) (by omega)), (unhide HI).2.1⟩

theorem mk_23 (n : Nat) (hn : n ≤ 1048576) (W : World) : (Instr.makeSlice 23 (.int .i64 (n : Int)) (.int .i64 (n : Int))).run Try.prog W = .ok (.slice (some ⟨W.heap.size, 0, none⟩) n n) (W.alloc (.cells (arrK .u16 n zfK).toArray 71)) :=
  mkK 23 71 .u16 2 Try.underlying23 (by kernel_rfl) (by decide) n hn W
set_option maxHeartbeats 800000 in
theorem clone_23 (a : Option Addr) (n c : Nat) (f : Nat → Int) (w : World) (hn : n ≤ 65536) (ha : Hid ((a = none ∧ n = 0 ∧ c = 0) ∨ ∃ b o s, a = some ⟨b, o, s⟩ ∧ (0 < n → s = none) ∧ ∀ i, i < n → w.cell? ⟨b, o + i, none⟩ = some (.int .u16 (f i)))) :
    Calls Try.prog 9 #[.slice a n c] w fun e w' => ∃ a', e = .returned (.slice a' n n) ∧ Src .u16 w' a' n f ∧ Below w.heap.size w w' := by
  have e1 := fun W a n c => Lib.run_eql_slice_nil (P := Try.prog) W 23 71 a n c 0 0 Try.underlying23
  have hn' : (n : Int) ≤ 65536 := by omega
  rcases unhide ha with ⟨rfl, rfl, rfl⟩ | ⟨b, o, s, rfl, hs, hc⟩
  · clear ha
    go_enter Try.func9, Try.ntmps9
    go_wp2
    go_ret
    exact ⟨none, rfl, ⟨0, fun h => absurd h (Nat.lt_irrefl 0), fun i hi => absurd hi (Nat.not_lt_zero i)⟩, Below.refl _ _⟩
  · have Hs := hide hs
    have Hc := hide hc
    clear ha hs hc
    have mk := fun W => mk_23 n (by omega) W
    go_enter Try.func9, Try.ntmps9
    go_wp2
    go_loopw [4] (fun i wr => ∃ k : Nat, k ≤ n ∧ i = .int .i64 k ∧ Hid (KInv .u16 w n f k wr)) (fun i _ => n - (intOf i).toNat)
    case atStart => exact ⟨0, Nat.zero_le _, rfl, hide (KInv_start _ _ _ _ _)⟩
    case round =>
      obtain ⟨k, hk, rfl, HI⟩ := hrel
      by_cases hlt : k < n
      · have es := unhide Hs (by omega)
        subst es
        have hcell : wr.cell? ⟨b, o + k, none⟩ = some (.int .u16 (f k)) := by
          have := unhide Hc k hlt
          rw [(unhide HI).2.1.cell (World.block_lt_of_cell? _ _ this)]; exact this
        obtain ⟨⟨x, hcv⟩, hfz⟩ := KInv_cell _ _ _ _ _ _ (unhide HI) hlt
        go_wp2
        go_roundw
        case rel => exact ⟨k + 1, by omega, by go_num, hide (KInv_step _ _ _ _ _ _ (unhide HI))⟩
        case measure => simp [intOf]; omega
      · go_wp2
        go_ret
        exact ⟨_, rfl, Src_blk (KInv_end _ _ _ _ _ _ (unhide HI) (by omega)), (unhide HI).2.1⟩

theorem mk_24 (n : Nat) (hn : n ≤ 1048576) (W : World) : (Instr.makeSlice 24 (.int .i64 (n : Int)) (.int .i64 (n : Int))).run Try.prog W = .ok (.slice (some ⟨W.heap.size, 0, none⟩) n n) (W.alloc (.cells (arrK .u32 n zfK).toArray 34)) :=
  mkK 24 34 .u32 4 Try.underlying24 (by kernel_rfl) (by decide) n hn W
set_option maxHeartbeats 800000 in
theorem clone_24 (a : Option Addr) (n c : Nat) (f : Nat → Int) (w : World) (hn : n ≤ 65536) (ha : Hid ((a = none ∧ n = 0 ∧ c = 0) ∨ ∃ b o s, a = some ⟨b, o, s⟩ ∧ (0 < n → s = none) ∧ ∀ i, i < n → w.cell? ⟨b, o + i, none⟩ = some (.int .u32 (f i)))) :
    Calls Try.prog 10 #[.slice a n c] w fun e w' => ∃ a', e = .returned (.slice a' n n) ∧ Src .u32 w' a' n f ∧ Below w.heap.size w w' := by
  have e1 := fun W a n c => Lib.run_eql_slice_nil (P := Try.prog) W 24 34 a n c 0 0 Try.underlying24
  have hn' : (n : Int) ≤ 65536 := by omega
  rcases unhide ha with ⟨rfl, rfl, rfl⟩ | ⟨b, o, s, rfl, hs, hc⟩
  · clear ha
    go_enter Try.func10, Try.ntmps10
    go_wp2
    go_ret
    exact ⟨none, rfl, ⟨0, fun h => absurd h (Nat.lt_irrefl 0), fun i hi => absurd hi (Nat.not_lt_zero i)⟩, Below.refl _ _⟩
  · have Hs := hide hs
    have Hc := hide hc
    clear ha hs hc
    have mk := fun W => mk_24 n (by omega) W
    go_enter Try.func10, Try.ntmps10
    go_wp2
    go_loopw [4] (fun i wr => ∃ k : Nat, k ≤ n ∧ i = .int .i64 k ∧ Hid (KInv .u32 w n f k wr)) (fun i _ => n - (intOf i).toNat)
    case atStart => exact ⟨0, Nat.zero_le _, rfl, hide (KInv_start _ _ _ _ _)⟩
    case round =>
      obtain ⟨k, hk, rfl, HI⟩ := hrel
      by_cases hlt : k < n
      · have es := unhide Hs (by omega)
        subst es
        have hcell : wr.cell? ⟨b, o + k, none⟩ = some (.int .u32 (f k)) := by
          have := unhide Hc k hlt
          rw [(unhide HI).2.1.cell (World.block_lt_of_cell? _ _ this)]; exact this
        obtain ⟨⟨x, hcv⟩, hfz⟩ := KInv_cell _ _ _ _ _ _ (unhide HI) hlt
        go_wp2
        go_roundw
        case rel => exact ⟨k + 1, by omega, by go_num, hide (KInv_step _ _ _ _ _ _ (unhide HI))⟩
        case measure => simp [intOf]; omega
      · go_wp2
        go_ret
        exact ⟨_, rfl, Src_blk (KInv_end _ _ _ _ _ _ (unhide HI) (by omega)), (unhide HI).2.1⟩
end Go.Proofs.Qxb6002605a
