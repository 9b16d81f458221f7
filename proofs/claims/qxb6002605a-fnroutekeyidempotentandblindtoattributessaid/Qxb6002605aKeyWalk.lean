/- the law's walk -/
import Derived.Test.Qxb6002605aKey
import Derived.Test.Qxb6002605aKeyEq
import Derived.Deep.RegionWith
import Derived.Deep.DrawnRows
namespace Go.Proofs.Qxb6002605a
open Go.ChangeShapes Go.WideShapes Go.ChangeAt Go.RowKit
set_option linter.unusedVariables false
set_option linter.unusedSimpArgs false
attribute [local go_sem ↓] ex_load ex_store ex_alloc ex_build ex_bin68 ex_bin59 ex_bin60
attribute [local go_sem] setCells_put alloc68 alloc66 build68 build66a build66b ld58 ld34 ld59 ld60 ld61 ld49 ld64 ld68 ld66 ld39 ld56 ld57 lv68 st60 st61 st49 st64 st68 st66 st34 st62 st4 blk_drew blk_drewN blk_alloc blk_put size_put len_arr len_key len_route k0 k1 k2 k3 k4 k5 k6 kk r0 r1 r2 r3 r4 r5 r6 rr a8 a10 a6 ov_key ov_route ov_k2 ov_k3 ov_k4 ov_k5 ov_k6 ov_r2 ov_r8 ov_r9 ov_r10 neq68 eql68 neq59 eql60 eqA_refl

def kE (t : Int) (e : Nat → Int) : Nat → Int := if t = 1 ∨ t = 4 then e else zf
def kT (t : Int) (tag : Int) : Int := if t = 1 ∨ t = 2 ∨ t = 3 ∨ t = 5 then tag else 0
def kM (t : Int) (m : Nat → Int) : Nat → Int := if t = 2 then m else zf
theorem kE_idem (t : Int) (e : Nat → Int) : kE t (kE t e) = kE t e := by unfold kE; split <;> simp_all
theorem kT_idem (t : Int) (tag : Int) : kT t (kT t tag) = kT t tag := by unfold kT; split <;> simp_all
theorem kM_idem (t : Int) (m : Nat → Int) : kM t (kM t m) = kM t m := by unfold kM; split <;> simp_all
theorem keyEq_refl (t : Int) (f e : Nat → Int) (tag : Int) (m : Nat → Int) : keyEq t f e tag m t f e tag m = true := by simp [keyEq, eqA_refl]
theorem keyEq_esi (t : Int) (f e e' : Nat → Int) (tag : Int) (m : Nat → Int) : keyEq t f e' tag m t f e tag m = eqA 10 e' e := by simp [keyEq, eqA_refl]
theorem key_calls (b : Nat) (t : Int) (f e : Nat → Int) (tag : Int) (m : Nat → Int) (l1 l2 : Int) (h : Bool) (w : World)
    (h0 : blkOf w b = routeL t f e tag m l1 l2 h) :
    Calls Try.prog 19 #[.pointer (some ⟨b, 0, none⟩)] w fun e' w' => e' = .returned (.agg (keyL t f (kE t e) (kT t tag) (kM t m)).toArray) ∧ Below w.heap.size w w' := key_any b t f e tag m l1 l2 h w h0
theorem rangeE {W : World} {b : Nat} {t : Int} {f e : Nat → Int} {tag : Int} {m : Nat → Int} {l1 l2 : Int} {h : Bool} (hb : blkOf W b = routeL t f e tag m l1 l2 h) : W.rangeAt b 9 (arr 10 e) := by
  have := blk_range (W := W) (b := b) 9 10 (by rw [hb, len_route]; decide)
  rw [hb, r2] at this
  exact this
attribute [local go_sem] kE_idem kT_idem kM_idem keyEq_refl keyEq_esi

set_option maxRecDepth 100000 in
set_option maxHeartbeats 3200000 in
theorem walk_A1 (t : Int) (f e : Nat → Int) (tag : Int) (m : Nat → Int) (l1 l2 : Int) (h : Bool) (oe : Nat → Int) (ol ol2 : Int) (T : Int) (M : Nat → Int) (w : World)
    (C1 : Hid (∀ b l1 l2 h w, blkOf w b = routeL t f e tag m l1 l2 h → Calls Try.prog 19 #[.pointer (some ⟨b, 0, none⟩)] w fun e' w' => e' = .returned (.agg (keyL t f e T M).toArray) ∧ Below w.heap.size w w'))
    (C2 : Hid (∀ b l1 l2 h w, blkOf w b = routeL t f e T M l1 l2 h → Calls Try.prog 19 #[.pointer (some ⟨b, 0, none⟩)] w fun e' w' => e' = .returned (.agg (keyL t f e T M).toArray) ∧ Below w.heap.size w w'))
    (C3 : Hid (∀ b l1 l2 h w, blkOf w b = routeL t f oe tag m l1 l2 h → Calls Try.prog 19 #[.pointer (some ⟨b, 0, none⟩)] w fun e' w' => e' = .returned (.agg (keyL t f oe T M).toArray) ∧ Below w.heap.size w w'))
    (t1 : (t == 1) = true) (t0 : (t == 0) = false) (t5 : ¬ 5 < t) :
    Calls Try.prog 6 #[.int .u8 t, .agg (arr 8 f).toArray, .agg (arr 10 e).toArray, .int .u32 tag, .agg (arr 6 m).toArray, .int .u32 l1, .int .u32 l2, .bool h, .agg (arr 10 oe).toArray, .int .u32 ol, .int .u32 ol2] w
      fun e w' => e = .returned (.bool true) ∧ Below w.heap.size w w' := by
  go_enter Try.func6, Try.ntmps6
  go_wp2_with fail
  refine (unhide C1 (w.heap.size + 4) l1 l2 h _ (by go_simp)).mono ?_
  rintro e' w1 ⟨rfl, hb1⟩
  have s1 : w.heap.size + 5 ≤ w1.heap.size := by have := hb1.size; simpa [size_put] using this
  have hr1 : blkOf w1 (w.heap.size + 4) = routeL t f e tag m l1 l2 h := by rw [blk_below hb1 (by simp [size_put])]; go_simp
  have ho1 : blkOf w1 (w.heap.size + 3) = arr 10 oe := by rw [blk_below hb1 (by simp [size_put])]; go_simp
  have B1 : Below w.heap.size w w1 := by
    refine Below.trans ?_ (hb1.mono (by simp [size_put]; omega))
    ((repeat' (with_reducible (first | exact Below.refl _ _ | assumption | refine below_put _ ?_ ?_ _ | refine Below.drew ?_ | refine Below.alloc ?_ ?_ _))) <;> (first | omega | (simp [size_put]; done) | (simp [size_put]; omega)))
  clear hb1
  have cr : w.heap.size + 4 < w1.heap.size := by omega
  have co : w.heap.size + 3 < w1.heap.size := by omega
  generalize w.heap.size + 4 = rb at *
  generalize w.heap.size + 3 = ob at *
  have n0_w1 : ¬ rb = w1.heap.size := by omega
  have o0_w1 : ¬ rb = w1.heap.size + 1 := by omega
  have n1_w1 : ¬ ob = w1.heap.size := by omega
  have o1_w1 : ¬ ob = w1.heap.size + 1 := by omega
  go_wp2_with fail
  go_region_held3 (fun W => blkOf W w1.heap.size = keyL t f e T M ∧ blkOf W rb = routeL t f e tag m l1 l2 h ∧ blkOf W ob = arr 10 oe ∧ Below w.heap.size w W ∧ w1.heap.size < W.heap.size)
    (first | (refine ⟨?_, ?_, ?_, ?_, ?_⟩; (go_simp); (go_simp); (go_simp); ((repeat' (with_reducible (first | exact Below.refl _ _ | assumption | refine below_put _ ?_ ?_ _ | refine Below.drew ?_ | refine Below.alloc ?_ ?_ _))) <;> (first | omega | (simp [size_put]; done) | (simp [size_put]; omega))); (simp [size_put] <;> omega))
           | (refine ⟨?_, ?_, ?_, ?_, ?_⟩; (rw [blk_below hb2 (by simp [size_put] <;> omega)]; go_simp); (rw [blk_below hb2 (by simp [size_put] <;> omega)]; go_simp); (rw [blk_below hb2 (by simp [size_put] <;> omega)]; go_simp); (refine Below.trans ?_ (hb2.mono (by simp [size_put] <;> omega)); ((repeat' (with_reducible (first | exact Below.refl _ _ | assumption | refine below_put _ ?_ ?_ _ | refine Below.drew ?_ | refine Below.alloc ?_ ?_ _))) <;> (first | omega | (simp [size_put]; done) | (simp [size_put]; omega)))); (have := hb2.size; simp [size_put] at this; omega)))
    ((go_at_call 19; refine (unhide C2 (w1.heap.size + 1) 0 0 false _ ?_).mono ?_; (go_simp); rintro e' w2 ⟨rfl, hb2⟩))
  go_split_ands
  rename_i hk2 hr2 ho2 B2 ck2
  have z2 : w.heap.size ≤ w2.heap.size := B2.size
  have cr2 : rb < w2.heap.size := blk_lt (o := 0) (by rw [hr2, len_route]; decide)
  have co2 : ob < w2.heap.size := blk_lt (o := 0) (by rw [ho2, len_arr]; decide)
  clear hb2
  clear hr1 ho1 B1 s1 n0_w1 n1_w1 o0_w1 o1_w1 cr co
  generalize w1.heap.size = kb at *
  have n0_w2 : ¬ rb = w2.heap.size := by omega
  have o0_w2 : ¬ rb = w2.heap.size + 1 := by omega
  have n1_w2 : ¬ ob = w2.heap.size := by omega
  have o1_w2 : ¬ ob = w2.heap.size + 1 := by omega
  have n2_w2 : ¬ kb = w2.heap.size := by omega
  have o2_w2 : ¬ kb = w2.heap.size + 1 := by omega
  go_wp2_with fail
  go_region_held3 (fun W => blkOf W kb = keyL t f e T M ∧ blkOf W rb = routeL t f e tag m l1 l2 h ∧ blkOf W ob = arr 10 oe ∧ Below w.heap.size w W ∧ kb < W.heap.size)
    (first | (refine ⟨?_, ?_, ?_, ?_, ?_⟩; (go_simp); (go_simp); (go_simp); ((repeat' (with_reducible (first | exact Below.refl _ _ | assumption | refine below_put _ ?_ ?_ _ | refine Below.drew ?_ | refine Below.alloc ?_ ?_ _))) <;> (first | omega | (simp [size_put]; done) | (simp [size_put]; omega))); (simp [size_put] <;> omega))
           | (refine ⟨?_, ?_, ?_, ?_, ?_⟩; (rw [blk_below hb3 (by simp [size_put] <;> omega)]; go_simp); (rw [blk_below hb3 (by simp [size_put] <;> omega)]; go_simp); (rw [blk_below hb3 (by simp [size_put] <;> omega)]; go_simp); (refine Below.trans ?_ (hb3.mono (by simp [size_put] <;> omega)); ((repeat' (with_reducible (first | exact Below.refl _ _ | assumption | refine below_put _ ?_ ?_ _ | refine Below.drew ?_ | refine Below.alloc ?_ ?_ _))) <;> (first | omega | (simp [size_put]; done) | (simp [size_put]; omega)))); (have := hb3.size; simp [size_put] at this; omega)))
    ((go_at_call 19; refine (unhide C1 w2.heap.size ol ol2 (!h) _ ?_).mono ?_; (go_simp); rintro e' w3 ⟨rfl, hb3⟩))
  go_split_ands
  rename_i hk3 hr3 ho3 B3 ck3
  have z3 : w.heap.size ≤ w3.heap.size := B3.size
  have cr3 : rb < w3.heap.size := blk_lt (o := 0) (by rw [hr3, len_route]; decide)
  have co3 : ob < w3.heap.size := blk_lt (o := 0) (by rw [ho3, len_arr]; decide)
  clear hb3
  clear hk2 hr2 ho2 B2 ck2 cr2 co2 n0_w2 n1_w2 n2_w2 o0_w2 o1_w2 o2_w2
  have n0_w3 : ¬ rb = w3.heap.size := by omega
  have o0_w3 : ¬ rb = w3.heap.size + 1 := by omega
  have n1_w3 : ¬ ob = w3.heap.size := by omega
  have o1_w3 : ¬ ob = w3.heap.size + 1 := by omega
  have n2_w3 : ¬ kb = w3.heap.size := by omega
  have o2_w3 : ¬ kb = w3.heap.size + 1 := by omega
  go_wp2_with fail
  refine wp_region_held_drew (S := (fun W => blkOf W kb = keyL t f e T M ∧ blkOf W rb = routeL t f e tag m l1 l2 h ∧ blkOf W w3.heap.size = routeL t f oe tag m l1 l2 h ∧ Below w.heap.size w W ∧ kb < W.heap.size)) (by kernel_rfl) ?_ (fun hHeld => ?_)
  · (first | (refine ⟨?_, ?_, ?_, ?_, ?_⟩; (go_simp); (go_simp); (go_simp); ((repeat' (with_reducible (first | exact Below.refl _ _ | assumption | refine below_put _ ?_ ?_ _ | refine Below.drew ?_ | refine Below.alloc ?_ ?_ _))) <;> (first | omega | (simp [size_put]; done) | (simp [size_put]; omega))); (simp [size_put] <;> omega))
           | (refine ⟨?_, ?_, ?_, ?_, ?_⟩; (rw [blk_below hb4 (by simp [size_put] <;> omega)]; go_simp); (rw [blk_below hb4 (by simp [size_put] <;> omega)]; go_simp); (rw [blk_below hb4 (by simp [size_put] <;> omega)]; go_simp); (refine Below.trans ?_ (hb4.mono (by simp [size_put] <;> omega)); ((repeat' (with_reducible (first | exact Below.refl _ _ | assumption | refine below_put _ ?_ ?_ _ | refine Below.drew ?_ | refine Below.alloc ?_ ?_ _))) <;> (first | omega | (simp [size_put]; done) | (simp [size_put]; omega)))); (have := hb4.size; simp [size_put] at this; omega)))
  refine wpAnyH_take (i := 3) (oi := ⟨some 93, .fieldAddr 66 (.tmp 27) 2, _, _, _, none⟩) (v := .pointer (some ⟨w3.heap.size, 9, none⟩)) rfl (by kernel_rfl) (by kernel_rfl) (by kernel_rfl) (fun _ _ _ h => h) (Or.inl ⟨by rfl, fun W hSw => ?_⟩) hHeld ?_
  · dsimp only at hSw
    go_simp
  simp only [Act.put, List.setIfInBounds_toArray, List.set_cons_zero, List.set_cons_succ]
  refine wpAnyH_take (i := 4) (oi := ⟨some 94, .load 60 (.tmp 93), _, _, _, none⟩) (v := .agg (arr 10 oe).toArray) rfl (by kernel_rfl) (by kernel_rfl) (by kernel_rfl) (fun _ _ _ h => h) (Or.inl ⟨by rfl, fun W hSw => ?_⟩) hHeld ?_
  · dsimp only at hSw
    go_simp
  simp only [Act.put, List.setIfInBounds_toArray, List.set_cons_zero, List.set_cons_succ]
  refine wpAnyH_take (i := 5) (oi := ⟨some 95, .fieldAddr 66 (.tmp 23) 2, _, _, _, none⟩) (v := .pointer (some ⟨rb, 9, none⟩)) rfl (by kernel_rfl) (by kernel_rfl) (by kernel_rfl) (fun _ _ _ h => h) (Or.inl ⟨by rfl, fun W hSw => ?_⟩) hHeld ?_
  · dsimp only at hSw
    go_simp
  simp only [Act.put, List.setIfInBounds_toArray, List.set_cons_zero, List.set_cons_succ]
  refine wpAnyH_take (i := 6) (oi := ⟨some 96, .load 60 (.tmp 95), _, _, _, none⟩) (v := .agg (arr 10 e).toArray) rfl (by kernel_rfl) (by kernel_rfl) (by kernel_rfl) (fun _ _ _ h => h) (Or.inl ⟨by rfl, fun W hSw => ?_⟩) hHeld ?_
  · dsimp only at hSw
    go_simp
  simp only [Act.put, List.setIfInBounds_toArray, List.set_cons_zero, List.set_cons_succ]
  refine wpAnyH_take (i := 7) (oi := ⟨some 97, .binOp .eql 60 (.tmp 94) (.tmp 96) 60, _, _, _, none⟩) (v := .bool (eqA 10 oe e)) rfl (by kernel_rfl) (by kernel_rfl) (by kernel_rfl) (fun _ _ _ h => h) (Or.inl ⟨by rfl, fun W hSw => ?_⟩) hHeld ?_
  · dsimp only at hSw
    go_simp
  simp only [Act.put, List.setIfInBounds_toArray, List.set_cons_zero, List.set_cons_succ]
  refine wpAnyH_take (i := 1) (oi := ⟨some 91, .load 68 (.tmp 24), _, _, _, none⟩) (v := .agg (keyL t f e T M).toArray) rfl (by kernel_rfl) (by kernel_rfl) (by kernel_rfl) (fun _ _ _ h => h) (Or.inl ⟨by rfl, fun W hSw => ?_⟩) hHeld ?_
  · dsimp only at hSw
    go_simp
  simp only [Act.put, List.setIfInBounds_toArray, List.set_cons_zero, List.set_cons_succ]
  refine wpAnyH_ready (rs := [0]) (by kernel_rfl) (by simp) ?_
  refine AllReadyH.cons rfl (fun K hK => ?_) AllReadyH.nil
  go_simp
  refine (unhide C3 w3.heap.size l1 l2 h _ (by go_simp)).mono ?_
  rintro e' w4 ⟨rfl, hb4⟩
  refine hK.out _ _ ?_ (fun hHeld => ?_)
  · (first | (refine ⟨?_, ?_, ?_, ?_, ?_⟩; (go_simp); (go_simp); (go_simp); ((repeat' (with_reducible (first | exact Below.refl _ _ | assumption | refine below_put _ ?_ ?_ _ | refine Below.drew ?_ | refine Below.alloc ?_ ?_ _))) <;> (first | omega | (simp [size_put]; done) | (simp [size_put]; omega))); (simp [size_put] <;> omega))
           | (refine ⟨?_, ?_, ?_, ?_, ?_⟩; (rw [blk_below hb4 (by simp [size_put] <;> omega)]; go_simp); (rw [blk_below hb4 (by simp [size_put] <;> omega)]; go_simp); (rw [blk_below hb4 (by simp [size_put] <;> omega)]; go_simp); (refine Below.trans ?_ (hb4.mono (by simp [size_put] <;> omega)); ((repeat' (with_reducible (first | exact Below.refl _ _ | assumption | refine below_put _ ?_ ?_ _ | refine Below.drew ?_ | refine Below.alloc ?_ ?_ _))) <;> (first | omega | (simp [size_put]; done) | (simp [size_put]; omega)))); (have := hb4.size; simp [size_put] at this; omega)))
  clear hK K
  try simp only [Act.put, List.setIfInBounds_toArray, List.set_cons_zero, List.set_cons_succ]
  have B4 : Below w.heap.size w w4 := hHeld.2.2.2.1
  have hk4 : blkOf w4 kb = keyL t f e T M := hHeld.1
  have hr4 : blkOf w4 rb = routeL t f e tag m l1 l2 h := hHeld.2.1
  clear hb4 hk3 hr3 ho3 B3 ck3
  refine wpAnyH_take (i := 2) (oi := ⟨some 92, .binOp .eql 68 (.tmp 90) (.tmp 91) 68, _, _, _, none⟩) (v := .bool (eqA 10 oe e)) rfl (by kernel_rfl) (by kernel_rfl) (by kernel_rfl) (fun _ _ _ h => h) (Or.inl ⟨by rfl, fun W hSw => ?_⟩) hHeld ?_
  · dsimp only at hSw
    go_simp
  simp only [Act.put, List.setIfInBounds_toArray, List.set_cons_zero, List.set_cons_succ]
  refine wpAnyH_take (i := 8) (oi := ⟨some 98, .binOp .neq 4 (.tmp 92) (.tmp 97) 4, _, _, _, none⟩) (v := .bool false) rfl (by kernel_rfl) (by kernel_rfl) (by kernel_rfl) (fun _ _ _ h => h) (Or.inl ⟨by rfl, fun W hSw => ?_⟩) hHeld ?_
  · dsimp only at hSw
    go_simp
  simp only [Act.put, List.setIfInBounds_toArray, List.set_cons_zero, List.set_cons_succ]
  refine wpAnyH_done (by kernel_rfl) ?_ _
  clear hHeld
  go_wp2_with fail
  go_ret
  exact ⟨rfl, B4⟩

set_option maxRecDepth 100000 in
set_option maxHeartbeats 3200000 in
theorem walk_A4 (t : Int) (f e : Nat → Int) (tag : Int) (m : Nat → Int) (l1 l2 : Int) (h : Bool) (oe : Nat → Int) (ol ol2 : Int) (T : Int) (M : Nat → Int) (w : World)
    (C1 : Hid (∀ b l1 l2 h w, blkOf w b = routeL t f e tag m l1 l2 h → Calls Try.prog 19 #[.pointer (some ⟨b, 0, none⟩)] w fun e' w' => e' = .returned (.agg (keyL t f e T M).toArray) ∧ Below w.heap.size w w'))
    (C2 : Hid (∀ b l1 l2 h w, blkOf w b = routeL t f e T M l1 l2 h → Calls Try.prog 19 #[.pointer (some ⟨b, 0, none⟩)] w fun e' w' => e' = .returned (.agg (keyL t f e T M).toArray) ∧ Below w.heap.size w w'))
    (C3 : Hid (∀ b l1 l2 h w, blkOf w b = routeL t f oe tag m l1 l2 h → Calls Try.prog 19 #[.pointer (some ⟨b, 0, none⟩)] w fun e' w' => e' = .returned (.agg (keyL t f oe T M).toArray) ∧ Below w.heap.size w w'))
    (t1 : (t == 1) = false) (t4 : (t == 4) = true) (t0 : (t == 0) = false) (t5 : ¬ 5 < t) :
    Calls Try.prog 6 #[.int .u8 t, .agg (arr 8 f).toArray, .agg (arr 10 e).toArray, .int .u32 tag, .agg (arr 6 m).toArray, .int .u32 l1, .int .u32 l2, .bool h, .agg (arr 10 oe).toArray, .int .u32 ol, .int .u32 ol2] w
      fun e w' => e = .returned (.bool true) ∧ Below w.heap.size w w' := by
  go_enter Try.func6, Try.ntmps6
  go_wp2_with fail
  refine (unhide C1 (w.heap.size + 4) l1 l2 h _ (by go_simp)).mono ?_
  rintro e' w1 ⟨rfl, hb1⟩
  have s1 : w.heap.size + 5 ≤ w1.heap.size := by have := hb1.size; simpa [size_put] using this
  have hr1 : blkOf w1 (w.heap.size + 4) = routeL t f e tag m l1 l2 h := by rw [blk_below hb1 (by simp [size_put])]; go_simp
  have ho1 : blkOf w1 (w.heap.size + 3) = arr 10 oe := by rw [blk_below hb1 (by simp [size_put])]; go_simp
  have B1 : Below w.heap.size w w1 := by
    refine Below.trans ?_ (hb1.mono (by simp [size_put]; omega))
    ((repeat' (with_reducible (first | exact Below.refl _ _ | assumption | refine below_put _ ?_ ?_ _ | refine Below.drew ?_ | refine Below.alloc ?_ ?_ _))) <;> (first | omega | (simp [size_put]; done) | (simp [size_put]; omega)))
  clear hb1
  have cr : w.heap.size + 4 < w1.heap.size := by omega
  have co : w.heap.size + 3 < w1.heap.size := by omega
  generalize w.heap.size + 4 = rb at *
  generalize w.heap.size + 3 = ob at *
  have n0_w1 : ¬ rb = w1.heap.size := by omega
  have o0_w1 : ¬ rb = w1.heap.size + 1 := by omega
  have n1_w1 : ¬ ob = w1.heap.size := by omega
  have o1_w1 : ¬ ob = w1.heap.size + 1 := by omega
  go_wp2_with fail
  go_region_held3 (fun W => blkOf W w1.heap.size = keyL t f e T M ∧ blkOf W rb = routeL t f e tag m l1 l2 h ∧ blkOf W ob = arr 10 oe ∧ Below w.heap.size w W ∧ w1.heap.size < W.heap.size)
    (first | (refine ⟨?_, ?_, ?_, ?_, ?_⟩; (go_simp); (go_simp); (go_simp); ((repeat' (with_reducible (first | exact Below.refl _ _ | assumption | refine below_put _ ?_ ?_ _ | refine Below.drew ?_ | refine Below.alloc ?_ ?_ _))) <;> (first | omega | (simp [size_put]; done) | (simp [size_put]; omega))); (simp [size_put] <;> omega))
           | (refine ⟨?_, ?_, ?_, ?_, ?_⟩; (rw [blk_below hb2 (by simp [size_put] <;> omega)]; go_simp); (rw [blk_below hb2 (by simp [size_put] <;> omega)]; go_simp); (rw [blk_below hb2 (by simp [size_put] <;> omega)]; go_simp); (refine Below.trans ?_ (hb2.mono (by simp [size_put] <;> omega)); ((repeat' (with_reducible (first | exact Below.refl _ _ | assumption | refine below_put _ ?_ ?_ _ | refine Below.drew ?_ | refine Below.alloc ?_ ?_ _))) <;> (first | omega | (simp [size_put]; done) | (simp [size_put]; omega)))); (have := hb2.size; simp [size_put] at this; omega)))
    ((go_at_call 19; refine (unhide C2 (w1.heap.size + 1) 0 0 false _ ?_).mono ?_; (go_simp); rintro e' w2 ⟨rfl, hb2⟩))
  go_split_ands
  rename_i hk2 hr2 ho2 B2 ck2
  have z2 : w.heap.size ≤ w2.heap.size := B2.size
  have cr2 : rb < w2.heap.size := blk_lt (o := 0) (by rw [hr2, len_route]; decide)
  have co2 : ob < w2.heap.size := blk_lt (o := 0) (by rw [ho2, len_arr]; decide)
  clear hb2
  clear hr1 ho1 B1 s1 n0_w1 n1_w1 o0_w1 o1_w1 cr co
  generalize w1.heap.size = kb at *
  have n0_w2 : ¬ rb = w2.heap.size := by omega
  have o0_w2 : ¬ rb = w2.heap.size + 1 := by omega
  have n1_w2 : ¬ ob = w2.heap.size := by omega
  have o1_w2 : ¬ ob = w2.heap.size + 1 := by omega
  have n2_w2 : ¬ kb = w2.heap.size := by omega
  have o2_w2 : ¬ kb = w2.heap.size + 1 := by omega
  go_wp2_with fail
  go_region_held3 (fun W => blkOf W kb = keyL t f e T M ∧ blkOf W rb = routeL t f e tag m l1 l2 h ∧ blkOf W ob = arr 10 oe ∧ Below w.heap.size w W ∧ kb < W.heap.size)
    (first | (refine ⟨?_, ?_, ?_, ?_, ?_⟩; (go_simp); (go_simp); (go_simp); ((repeat' (with_reducible (first | exact Below.refl _ _ | assumption | refine below_put _ ?_ ?_ _ | refine Below.drew ?_ | refine Below.alloc ?_ ?_ _))) <;> (first | omega | (simp [size_put]; done) | (simp [size_put]; omega))); (simp [size_put] <;> omega))
           | (refine ⟨?_, ?_, ?_, ?_, ?_⟩; (rw [blk_below hb3 (by simp [size_put] <;> omega)]; go_simp); (rw [blk_below hb3 (by simp [size_put] <;> omega)]; go_simp); (rw [blk_below hb3 (by simp [size_put] <;> omega)]; go_simp); (refine Below.trans ?_ (hb3.mono (by simp [size_put] <;> omega)); ((repeat' (with_reducible (first | exact Below.refl _ _ | assumption | refine below_put _ ?_ ?_ _ | refine Below.drew ?_ | refine Below.alloc ?_ ?_ _))) <;> (first | omega | (simp [size_put]; done) | (simp [size_put]; omega)))); (have := hb3.size; simp [size_put] at this; omega)))
    ((go_at_call 19; refine (unhide C1 w2.heap.size ol ol2 (!h) _ ?_).mono ?_; (go_simp); rintro e' w3 ⟨rfl, hb3⟩))
  go_split_ands
  rename_i hk3 hr3 ho3 B3 ck3
  have z3 : w.heap.size ≤ w3.heap.size := B3.size
  have cr3 : rb < w3.heap.size := blk_lt (o := 0) (by rw [hr3, len_route]; decide)
  have co3 : ob < w3.heap.size := blk_lt (o := 0) (by rw [ho3, len_arr]; decide)
  clear hb3
  clear hk2 hr2 ho2 B2 ck2 cr2 co2 n0_w2 n1_w2 n2_w2 o0_w2 o1_w2 o2_w2
  have n0_w3 : ¬ rb = w3.heap.size := by omega
  have o0_w3 : ¬ rb = w3.heap.size + 1 := by omega
  have n1_w3 : ¬ ob = w3.heap.size := by omega
  have o1_w3 : ¬ ob = w3.heap.size + 1 := by omega
  have n2_w3 : ¬ kb = w3.heap.size := by omega
  have o2_w3 : ¬ kb = w3.heap.size + 1 := by omega
  go_wp2_with fail
  refine wp_region_held_drew (S := (fun W => blkOf W kb = keyL t f e T M ∧ blkOf W rb = routeL t f e tag m l1 l2 h ∧ blkOf W w3.heap.size = routeL t f oe tag m l1 l2 h ∧ Below w.heap.size w W ∧ kb < W.heap.size)) (by kernel_rfl) ?_ (fun hHeld => ?_)
  · (first | (refine ⟨?_, ?_, ?_, ?_, ?_⟩; (go_simp); (go_simp); (go_simp); ((repeat' (with_reducible (first | exact Below.refl _ _ | assumption | refine below_put _ ?_ ?_ _ | refine Below.drew ?_ | refine Below.alloc ?_ ?_ _))) <;> (first | omega | (simp [size_put]; done) | (simp [size_put]; omega))); (simp [size_put] <;> omega))
           | (refine ⟨?_, ?_, ?_, ?_, ?_⟩; (rw [blk_below hb4 (by simp [size_put] <;> omega)]; go_simp); (rw [blk_below hb4 (by simp [size_put] <;> omega)]; go_simp); (rw [blk_below hb4 (by simp [size_put] <;> omega)]; go_simp); (refine Below.trans ?_ (hb4.mono (by simp [size_put] <;> omega)); ((repeat' (with_reducible (first | exact Below.refl _ _ | assumption | refine below_put _ ?_ ?_ _ | refine Below.drew ?_ | refine Below.alloc ?_ ?_ _))) <;> (first | omega | (simp [size_put]; done) | (simp [size_put]; omega)))); (have := hb4.size; simp [size_put] at this; omega)))
  refine wpAnyH_take (i := 3) (oi := ⟨some 93, .fieldAddr 66 (.tmp 27) 2, _, _, _, none⟩) (v := .pointer (some ⟨w3.heap.size, 9, none⟩)) rfl (by kernel_rfl) (by kernel_rfl) (by kernel_rfl) (fun _ _ _ h => h) (Or.inl ⟨by rfl, fun W hSw => ?_⟩) hHeld ?_
  · dsimp only at hSw
    go_simp
  simp only [Act.put, List.setIfInBounds_toArray, List.set_cons_zero, List.set_cons_succ]
  refine wpAnyH_take (i := 4) (oi := ⟨some 94, .load 60 (.tmp 93), _, _, _, none⟩) (v := .agg (arr 10 oe).toArray) rfl (by kernel_rfl) (by kernel_rfl) (by kernel_rfl) (fun _ _ _ h => h) (Or.inl ⟨by rfl, fun W hSw => ?_⟩) hHeld ?_
  · dsimp only at hSw
    go_simp
  simp only [Act.put, List.setIfInBounds_toArray, List.set_cons_zero, List.set_cons_succ]
  refine wpAnyH_take (i := 5) (oi := ⟨some 95, .fieldAddr 66 (.tmp 23) 2, _, _, _, none⟩) (v := .pointer (some ⟨rb, 9, none⟩)) rfl (by kernel_rfl) (by kernel_rfl) (by kernel_rfl) (fun _ _ _ h => h) (Or.inl ⟨by rfl, fun W hSw => ?_⟩) hHeld ?_
  · dsimp only at hSw
    go_simp
  simp only [Act.put, List.setIfInBounds_toArray, List.set_cons_zero, List.set_cons_succ]
  refine wpAnyH_take (i := 6) (oi := ⟨some 96, .load 60 (.tmp 95), _, _, _, none⟩) (v := .agg (arr 10 e).toArray) rfl (by kernel_rfl) (by kernel_rfl) (by kernel_rfl) (fun _ _ _ h => h) (Or.inl ⟨by rfl, fun W hSw => ?_⟩) hHeld ?_
  · dsimp only at hSw
    go_simp
  simp only [Act.put, List.setIfInBounds_toArray, List.set_cons_zero, List.set_cons_succ]
  refine wpAnyH_take (i := 7) (oi := ⟨some 97, .binOp .eql 60 (.tmp 94) (.tmp 96) 60, _, _, _, none⟩) (v := .bool (eqA 10 oe e)) rfl (by kernel_rfl) (by kernel_rfl) (by kernel_rfl) (fun _ _ _ h => h) (Or.inl ⟨by rfl, fun W hSw => ?_⟩) hHeld ?_
  · dsimp only at hSw
    go_simp
  simp only [Act.put, List.setIfInBounds_toArray, List.set_cons_zero, List.set_cons_succ]
  refine wpAnyH_take (i := 1) (oi := ⟨some 91, .load 68 (.tmp 24), _, _, _, none⟩) (v := .agg (keyL t f e T M).toArray) rfl (by kernel_rfl) (by kernel_rfl) (by kernel_rfl) (fun _ _ _ h => h) (Or.inl ⟨by rfl, fun W hSw => ?_⟩) hHeld ?_
  · dsimp only at hSw
    go_simp
  simp only [Act.put, List.setIfInBounds_toArray, List.set_cons_zero, List.set_cons_succ]
  refine wpAnyH_ready (rs := [0]) (by kernel_rfl) (by simp) ?_
  refine AllReadyH.cons rfl (fun K hK => ?_) AllReadyH.nil
  go_simp
  refine (unhide C3 w3.heap.size l1 l2 h _ (by go_simp)).mono ?_
  rintro e' w4 ⟨rfl, hb4⟩
  refine hK.out _ _ ?_ (fun hHeld => ?_)
  · (first | (refine ⟨?_, ?_, ?_, ?_, ?_⟩; (go_simp); (go_simp); (go_simp); ((repeat' (with_reducible (first | exact Below.refl _ _ | assumption | refine below_put _ ?_ ?_ _ | refine Below.drew ?_ | refine Below.alloc ?_ ?_ _))) <;> (first | omega | (simp [size_put]; done) | (simp [size_put]; omega))); (simp [size_put] <;> omega))
           | (refine ⟨?_, ?_, ?_, ?_, ?_⟩; (rw [blk_below hb4 (by simp [size_put] <;> omega)]; go_simp); (rw [blk_below hb4 (by simp [size_put] <;> omega)]; go_simp); (rw [blk_below hb4 (by simp [size_put] <;> omega)]; go_simp); (refine Below.trans ?_ (hb4.mono (by simp [size_put] <;> omega)); ((repeat' (with_reducible (first | exact Below.refl _ _ | assumption | refine below_put _ ?_ ?_ _ | refine Below.drew ?_ | refine Below.alloc ?_ ?_ _))) <;> (first | omega | (simp [size_put]; done) | (simp [size_put]; omega)))); (have := hb4.size; simp [size_put] at this; omega)))
  clear hK K
  try simp only [Act.put, List.setIfInBounds_toArray, List.set_cons_zero, List.set_cons_succ]
  have B4 : Below w.heap.size w w4 := hHeld.2.2.2.1
  have hk4 : blkOf w4 kb = keyL t f e T M := hHeld.1
  have hr4 : blkOf w4 rb = routeL t f e tag m l1 l2 h := hHeld.2.1
  clear hb4 hk3 hr3 ho3 B3 ck3
  refine wpAnyH_take (i := 2) (oi := ⟨some 92, .binOp .eql 68 (.tmp 90) (.tmp 91) 68, _, _, _, none⟩) (v := .bool (eqA 10 oe e)) rfl (by kernel_rfl) (by kernel_rfl) (by kernel_rfl) (fun _ _ _ h => h) (Or.inl ⟨by rfl, fun W hSw => ?_⟩) hHeld ?_
  · dsimp only at hSw
    go_simp
  simp only [Act.put, List.setIfInBounds_toArray, List.set_cons_zero, List.set_cons_succ]
  refine wpAnyH_take (i := 8) (oi := ⟨some 98, .binOp .neq 4 (.tmp 92) (.tmp 97) 4, _, _, _, none⟩) (v := .bool false) rfl (by kernel_rfl) (by kernel_rfl) (by kernel_rfl) (fun _ _ _ h => h) (Or.inl ⟨by rfl, fun W hSw => ?_⟩) hHeld ?_
  · dsimp only at hSw
    go_simp
  simp only [Act.put, List.setIfInBounds_toArray, List.set_cons_zero, List.set_cons_succ]
  refine wpAnyH_done (by kernel_rfl) ?_ _
  clear hHeld
  go_wp2_with fail
  go_ret
  exact ⟨rfl, B4⟩

set_option maxRecDepth 100000 in
set_option maxHeartbeats 3200000 in
theorem walk_B (t : Int) (f e : Nat → Int) (tag : Int) (m : Nat → Int) (l1 l2 : Int) (h : Bool) (oe : Nat → Int) (ol ol2 : Int) (T : Int) (M : Nat → Int) (w : World)
    (C1 : Hid (∀ b l1 l2 h w, blkOf w b = routeL t f e tag m l1 l2 h → Calls Try.prog 19 #[.pointer (some ⟨b, 0, none⟩)] w fun e' w' => e' = .returned (.agg (keyL t f zf T M).toArray) ∧ Below w.heap.size w w'))
    (C2 : Hid (∀ b l1 l2 h w, blkOf w b = routeL t f zf T M l1 l2 h → Calls Try.prog 19 #[.pointer (some ⟨b, 0, none⟩)] w fun e' w' => e' = .returned (.agg (keyL t f zf T M).toArray) ∧ Below w.heap.size w w'))
    (C3 : Hid (∀ b l1 l2 h w, blkOf w b = routeL t f oe tag m l1 l2 h → Calls Try.prog 19 #[.pointer (some ⟨b, 0, none⟩)] w fun e' w' => e' = .returned (.agg (keyL t f zf T M).toArray) ∧ Below w.heap.size w w'))
    (t1 : (t == 1) = false) (t4 : (t == 4) = false) (t0 : (t == 0) = false) (t5 : ¬ 5 < t) :
    Calls Try.prog 6 #[.int .u8 t, .agg (arr 8 f).toArray, .agg (arr 10 e).toArray, .int .u32 tag, .agg (arr 6 m).toArray, .int .u32 l1, .int .u32 l2, .bool h, .agg (arr 10 oe).toArray, .int .u32 ol, .int .u32 ol2] w
      fun e w' => e = .returned (.bool true) ∧ Below w.heap.size w w' := by
  go_enter Try.func6, Try.ntmps6
  go_wp2_with fail
  refine (unhide C1 (w.heap.size + 4) l1 l2 h _ (by go_simp)).mono ?_
  rintro e' w1 ⟨rfl, hb1⟩
  have s1 : w.heap.size + 5 ≤ w1.heap.size := by have := hb1.size; simpa [size_put] using this
  have hr1 : blkOf w1 (w.heap.size + 4) = routeL t f e tag m l1 l2 h := by rw [blk_below hb1 (by simp [size_put])]; go_simp
  have ho1 : blkOf w1 (w.heap.size + 3) = arr 10 oe := by rw [blk_below hb1 (by simp [size_put])]; go_simp
  have B1 : Below w.heap.size w w1 := by
    refine Below.trans ?_ (hb1.mono (by simp [size_put]; omega))
    ((repeat' (with_reducible (first | exact Below.refl _ _ | assumption | refine below_put _ ?_ ?_ _ | refine Below.drew ?_ | refine Below.alloc ?_ ?_ _))) <;> (first | omega | (simp [size_put]; done) | (simp [size_put]; omega)))
  clear hb1
  have cr : w.heap.size + 4 < w1.heap.size := by omega
  have co : w.heap.size + 3 < w1.heap.size := by omega
  generalize w.heap.size + 4 = rb at *
  generalize w.heap.size + 3 = ob at *
  have n0_w1 : ¬ rb = w1.heap.size := by omega
  have o0_w1 : ¬ rb = w1.heap.size + 1 := by omega
  have n1_w1 : ¬ ob = w1.heap.size := by omega
  have o1_w1 : ¬ ob = w1.heap.size + 1 := by omega
  go_wp2_with fail
  go_region_held3 (fun W => blkOf W w1.heap.size = keyL t f zf T M ∧ blkOf W rb = routeL t f e tag m l1 l2 h ∧ blkOf W ob = arr 10 oe ∧ Below w.heap.size w W ∧ w1.heap.size < W.heap.size)
    (first | (refine ⟨?_, ?_, ?_, ?_, ?_⟩; (go_simp); (go_simp); (go_simp); ((repeat' (with_reducible (first | exact Below.refl _ _ | assumption | refine below_put _ ?_ ?_ _ | refine Below.drew ?_ | refine Below.alloc ?_ ?_ _))) <;> (first | omega | (simp [size_put]; done) | (simp [size_put]; omega))); (simp [size_put] <;> omega))
           | (refine ⟨?_, ?_, ?_, ?_, ?_⟩; (rw [blk_below hb2 (by simp [size_put] <;> omega)]; go_simp); (rw [blk_below hb2 (by simp [size_put] <;> omega)]; go_simp); (rw [blk_below hb2 (by simp [size_put] <;> omega)]; go_simp); (refine Below.trans ?_ (hb2.mono (by simp [size_put] <;> omega)); ((repeat' (with_reducible (first | exact Below.refl _ _ | assumption | refine below_put _ ?_ ?_ _ | refine Below.drew ?_ | refine Below.alloc ?_ ?_ _))) <;> (first | omega | (simp [size_put]; done) | (simp [size_put]; omega)))); (have := hb2.size; simp [size_put] at this; omega)))
    ((go_at_call 19; refine (unhide C2 (w1.heap.size + 1) 0 0 false _ ?_).mono ?_; (go_simp); rintro e' w2 ⟨rfl, hb2⟩))
  go_split_ands
  rename_i hk2 hr2 ho2 B2 ck2
  have z2 : w.heap.size ≤ w2.heap.size := B2.size
  have cr2 : rb < w2.heap.size := blk_lt (o := 0) (by rw [hr2, len_route]; decide)
  have co2 : ob < w2.heap.size := blk_lt (o := 0) (by rw [ho2, len_arr]; decide)
  clear hb2
  clear hr1 ho1 B1 s1 n0_w1 n1_w1 o0_w1 o1_w1 cr co
  generalize w1.heap.size = kb at *
  have n0_w2 : ¬ rb = w2.heap.size := by omega
  have o0_w2 : ¬ rb = w2.heap.size + 1 := by omega
  have n1_w2 : ¬ ob = w2.heap.size := by omega
  have o1_w2 : ¬ ob = w2.heap.size + 1 := by omega
  have n2_w2 : ¬ kb = w2.heap.size := by omega
  have o2_w2 : ¬ kb = w2.heap.size + 1 := by omega
  go_wp2_with fail
  go_region_held3 (fun W => blkOf W kb = keyL t f zf T M ∧ blkOf W rb = routeL t f e tag m l1 l2 h ∧ blkOf W ob = arr 10 oe ∧ Below w.heap.size w W ∧ kb < W.heap.size)
    (first | (refine ⟨?_, ?_, ?_, ?_, ?_⟩; (go_simp); (go_simp); (go_simp); ((repeat' (with_reducible (first | exact Below.refl _ _ | assumption | refine below_put _ ?_ ?_ _ | refine Below.drew ?_ | refine Below.alloc ?_ ?_ _))) <;> (first | omega | (simp [size_put]; done) | (simp [size_put]; omega))); (simp [size_put] <;> omega))
           | (refine ⟨?_, ?_, ?_, ?_, ?_⟩; (rw [blk_below hb3 (by simp [size_put] <;> omega)]; go_simp); (rw [blk_below hb3 (by simp [size_put] <;> omega)]; go_simp); (rw [blk_below hb3 (by simp [size_put] <;> omega)]; go_simp); (refine Below.trans ?_ (hb3.mono (by simp [size_put] <;> omega)); ((repeat' (with_reducible (first | exact Below.refl _ _ | assumption | refine below_put _ ?_ ?_ _ | refine Below.drew ?_ | refine Below.alloc ?_ ?_ _))) <;> (first | omega | (simp [size_put]; done) | (simp [size_put]; omega)))); (have := hb3.size; simp [size_put] at this; omega)))
    ((go_at_call 19; refine (unhide C1 w2.heap.size ol ol2 (!h) _ ?_).mono ?_; (go_simp); rintro e' w3 ⟨rfl, hb3⟩))
  go_split_ands
  rename_i hk3 hr3 ho3 B3 ck3
  have z3 : w.heap.size ≤ w3.heap.size := B3.size
  have cr3 : rb < w3.heap.size := blk_lt (o := 0) (by rw [hr3, len_route]; decide)
  have co3 : ob < w3.heap.size := blk_lt (o := 0) (by rw [ho3, len_arr]; decide)
  clear hb3
  clear hk2 hr2 ho2 B2 ck2 cr2 co2 n0_w2 n1_w2 n2_w2 o0_w2 o1_w2 o2_w2
  have n0_w3 : ¬ rb = w3.heap.size := by omega
  have o0_w3 : ¬ rb = w3.heap.size + 1 := by omega
  have n1_w3 : ¬ ob = w3.heap.size := by omega
  have o1_w3 : ¬ ob = w3.heap.size + 1 := by omega
  have n2_w3 : ¬ kb = w3.heap.size := by omega
  have o2_w3 : ¬ kb = w3.heap.size + 1 := by omega
  go_wp2_with fail
  go_region_held3 (fun W => blkOf W kb = keyL t f zf T M ∧ blkOf W rb = routeL t f e tag m l1 l2 h ∧ blkOf W w3.heap.size = routeL t f oe tag m l1 l2 h ∧ Below w.heap.size w W ∧ kb < W.heap.size)
    (first | (refine ⟨?_, ?_, ?_, ?_, ?_⟩; (go_simp); (go_simp); (go_simp); ((repeat' (with_reducible (first | exact Below.refl _ _ | assumption | refine below_put _ ?_ ?_ _ | refine Below.drew ?_ | refine Below.alloc ?_ ?_ _))) <;> (first | omega | (simp [size_put]; done) | (simp [size_put]; omega))); (simp [size_put] <;> omega))
           | (refine ⟨?_, ?_, ?_, ?_, ?_⟩; (rw [blk_below hb4 (by simp [size_put] <;> omega)]; go_simp); (rw [blk_below hb4 (by simp [size_put] <;> omega)]; go_simp); (rw [blk_below hb4 (by simp [size_put] <;> omega)]; go_simp); (refine Below.trans ?_ (hb4.mono (by simp [size_put] <;> omega)); ((repeat' (with_reducible (first | exact Below.refl _ _ | assumption | refine below_put _ ?_ ?_ _ | refine Below.drew ?_ | refine Below.alloc ?_ ?_ _))) <;> (first | omega | (simp [size_put]; done) | (simp [size_put]; omega)))); (have := hb4.size; simp [size_put] at this; omega)))
    ((go_at_call 19; refine (unhide C3 w3.heap.size l1 l2 h _ ?_).mono ?_; (go_simp); rintro e' w4 ⟨rfl, hb4⟩))
  go_split_ands
  rename_i hk4 hr4 hm4 B4 ck4
  clear hb4 hk3 hr3 ho3 B3 ck3
  go_wp2_with fail
  go_ret
  exact ⟨rfl, B4⟩

set_option maxRecDepth 100000 in
set_option maxHeartbeats 3200000 in
theorem walk_C0 (t : Int) (f e : Nat → Int) (tag : Int) (m : Nat → Int) (l1 l2 : Int) (h : Bool) (oe : Nat → Int) (ol ol2 : Int) (T : Int) (M : Nat → Int) (w : World)
    (C1 : Hid (∀ b l1 l2 h w, blkOf w b = routeL t f e tag m l1 l2 h → Calls Try.prog 19 #[.pointer (some ⟨b, 0, none⟩)] w fun e' w' => e' = .returned (.agg (keyL t f zf 0 zf).toArray) ∧ Below w.heap.size w w'))
    (C2 : Hid (∀ b l1 l2 h w, blkOf w b = routeL t f zf 0 zf l1 l2 h → Calls Try.prog 19 #[.pointer (some ⟨b, 0, none⟩)] w fun e' w' => e' = .returned (.agg (keyL t f zf 0 zf).toArray) ∧ Below w.heap.size w w'))
    (C3 : Hid (∀ b l1 l2 h w, blkOf w b = routeL t f oe tag m l1 l2 h → Calls Try.prog 19 #[.pointer (some ⟨b, 0, none⟩)] w fun e' w' => e' = .returned (.agg (keyL t f zf 0 zf).toArray) ∧ Below w.heap.size w w'))
    (t1 : (t == 1) = false) (t4 : (t == 4) = false) (t0 : (t == 0) = true) :
    Calls Try.prog 6 #[.int .u8 t, .agg (arr 8 f).toArray, .agg (arr 10 e).toArray, .int .u32 tag, .agg (arr 6 m).toArray, .int .u32 l1, .int .u32 l2, .bool h, .agg (arr 10 oe).toArray, .int .u32 ol, .int .u32 ol2] w
      fun e w' => e = .returned (.bool true) ∧ Below w.heap.size w w' := by
  go_enter Try.func6, Try.ntmps6
  go_wp2_with fail
  refine (unhide C1 (w.heap.size + 4) l1 l2 h _ (by go_simp)).mono ?_
  rintro e' w1 ⟨rfl, hb1⟩
  have s1 : w.heap.size + 5 ≤ w1.heap.size := by have := hb1.size; simpa [size_put] using this
  have hr1 : blkOf w1 (w.heap.size + 4) = routeL t f e tag m l1 l2 h := by rw [blk_below hb1 (by simp [size_put])]; go_simp
  have ho1 : blkOf w1 (w.heap.size + 3) = arr 10 oe := by rw [blk_below hb1 (by simp [size_put])]; go_simp
  have B1 : Below w.heap.size w w1 := by
    refine Below.trans ?_ (hb1.mono (by simp [size_put]; omega))
    ((repeat' (with_reducible (first | exact Below.refl _ _ | assumption | refine below_put _ ?_ ?_ _ | refine Below.drew ?_ | refine Below.alloc ?_ ?_ _))) <;> (first | omega | (simp [size_put]; done) | (simp [size_put]; omega)))
  clear hb1
  have cr : w.heap.size + 4 < w1.heap.size := by omega
  have co : w.heap.size + 3 < w1.heap.size := by omega
  generalize w.heap.size + 4 = rb at *
  generalize w.heap.size + 3 = ob at *
  have n0_w1 : ¬ rb = w1.heap.size := by omega
  have o0_w1 : ¬ rb = w1.heap.size + 1 := by omega
  have n1_w1 : ¬ ob = w1.heap.size := by omega
  have o1_w1 : ¬ ob = w1.heap.size + 1 := by omega
  go_wp2_with fail
  go_region_held3 (fun W => blkOf W w1.heap.size = keyL t f zf 0 zf ∧ blkOf W rb = routeL t f e tag m l1 l2 h ∧ blkOf W ob = arr 10 oe ∧ Below w.heap.size w W ∧ w1.heap.size < W.heap.size)
    (first | (refine ⟨?_, ?_, ?_, ?_, ?_⟩; (go_simp); (go_simp); (go_simp); ((repeat' (with_reducible (first | exact Below.refl _ _ | assumption | refine below_put _ ?_ ?_ _ | refine Below.drew ?_ | refine Below.alloc ?_ ?_ _))) <;> (first | omega | (simp [size_put]; done) | (simp [size_put]; omega))); (simp [size_put] <;> omega))
           | (refine ⟨?_, ?_, ?_, ?_, ?_⟩; (rw [blk_below hb2 (by simp [size_put] <;> omega)]; go_simp); (rw [blk_below hb2 (by simp [size_put] <;> omega)]; go_simp); (rw [blk_below hb2 (by simp [size_put] <;> omega)]; go_simp); (refine Below.trans ?_ (hb2.mono (by simp [size_put] <;> omega)); ((repeat' (with_reducible (first | exact Below.refl _ _ | assumption | refine below_put _ ?_ ?_ _ | refine Below.drew ?_ | refine Below.alloc ?_ ?_ _))) <;> (first | omega | (simp [size_put]; done) | (simp [size_put]; omega)))); (have := hb2.size; simp [size_put] at this; omega)))
    ((go_at_call 19; refine (unhide C2 (w1.heap.size + 1) 0 0 false _ ?_).mono ?_; (go_simp); rintro e' w2 ⟨rfl, hb2⟩))
  go_split_ands
  rename_i hk2 hr2 ho2 B2 ck2
  have z2 : w.heap.size ≤ w2.heap.size := B2.size
  have cr2 : rb < w2.heap.size := blk_lt (o := 0) (by rw [hr2, len_route]; decide)
  have co2 : ob < w2.heap.size := blk_lt (o := 0) (by rw [ho2, len_arr]; decide)
  clear hb2
  clear hr1 ho1 B1 s1 n0_w1 n1_w1 o0_w1 o1_w1 cr co
  generalize w1.heap.size = kb at *
  have n0_w2 : ¬ rb = w2.heap.size := by omega
  have o0_w2 : ¬ rb = w2.heap.size + 1 := by omega
  have n1_w2 : ¬ ob = w2.heap.size := by omega
  have o1_w2 : ¬ ob = w2.heap.size + 1 := by omega
  have n2_w2 : ¬ kb = w2.heap.size := by omega
  have o2_w2 : ¬ kb = w2.heap.size + 1 := by omega
  go_wp2_with fail
  go_region_held3 (fun W => blkOf W kb = keyL t f zf 0 zf ∧ blkOf W rb = routeL t f e tag m l1 l2 h ∧ blkOf W ob = arr 10 oe ∧ Below w.heap.size w W ∧ kb < W.heap.size)
    (first | (refine ⟨?_, ?_, ?_, ?_, ?_⟩; (go_simp); (go_simp); (go_simp); ((repeat' (with_reducible (first | exact Below.refl _ _ | assumption | refine below_put _ ?_ ?_ _ | refine Below.drew ?_ | refine Below.alloc ?_ ?_ _))) <;> (first | omega | (simp [size_put]; done) | (simp [size_put]; omega))); (simp [size_put] <;> omega))
           | (refine ⟨?_, ?_, ?_, ?_, ?_⟩; (rw [blk_below hb3 (by simp [size_put] <;> omega)]; go_simp); (rw [blk_below hb3 (by simp [size_put] <;> omega)]; go_simp); (rw [blk_below hb3 (by simp [size_put] <;> omega)]; go_simp); (refine Below.trans ?_ (hb3.mono (by simp [size_put] <;> omega)); ((repeat' (with_reducible (first | exact Below.refl _ _ | assumption | refine below_put _ ?_ ?_ _ | refine Below.drew ?_ | refine Below.alloc ?_ ?_ _))) <;> (first | omega | (simp [size_put]; done) | (simp [size_put]; omega)))); (have := hb3.size; simp [size_put] at this; omega)))
    ((go_at_call 19; refine (unhide C1 w2.heap.size ol ol2 (!h) _ ?_).mono ?_; (go_simp); rintro e' w3 ⟨rfl, hb3⟩))
  go_split_ands
  rename_i hk3 hr3 ho3 B3 ck3
  have z3 : w.heap.size ≤ w3.heap.size := B3.size
  have cr3 : rb < w3.heap.size := blk_lt (o := 0) (by rw [hr3, len_route]; decide)
  have co3 : ob < w3.heap.size := blk_lt (o := 0) (by rw [ho3, len_arr]; decide)
  clear hb3
  clear hk2 hr2 ho2 B2 ck2 cr2 co2 n0_w2 n1_w2 n2_w2 o0_w2 o1_w2 o2_w2
  have n0_w3 : ¬ rb = w3.heap.size := by omega
  have o0_w3 : ¬ rb = w3.heap.size + 1 := by omega
  have n1_w3 : ¬ ob = w3.heap.size := by omega
  have o1_w3 : ¬ ob = w3.heap.size + 1 := by omega
  have n2_w3 : ¬ kb = w3.heap.size := by omega
  have o2_w3 : ¬ kb = w3.heap.size + 1 := by omega
  go_wp2_with fail
  go_region_held3 (fun W => blkOf W kb = keyL t f zf 0 zf ∧ blkOf W rb = routeL t f e tag m l1 l2 h ∧ blkOf W w3.heap.size = routeL t f oe tag m l1 l2 h ∧ Below w.heap.size w W ∧ kb < W.heap.size)
    (first | (refine ⟨?_, ?_, ?_, ?_, ?_⟩; (go_simp); (go_simp); (go_simp); ((repeat' (with_reducible (first | exact Below.refl _ _ | assumption | refine below_put _ ?_ ?_ _ | refine Below.drew ?_ | refine Below.alloc ?_ ?_ _))) <;> (first | omega | (simp [size_put]; done) | (simp [size_put]; omega))); (simp [size_put] <;> omega))
           | (refine ⟨?_, ?_, ?_, ?_, ?_⟩; (rw [blk_below hb4 (by simp [size_put] <;> omega)]; go_simp); (rw [blk_below hb4 (by simp [size_put] <;> omega)]; go_simp); (rw [blk_below hb4 (by simp [size_put] <;> omega)]; go_simp); (refine Below.trans ?_ (hb4.mono (by simp [size_put] <;> omega)); ((repeat' (with_reducible (first | exact Below.refl _ _ | assumption | refine below_put _ ?_ ?_ _ | refine Below.drew ?_ | refine Below.alloc ?_ ?_ _))) <;> (first | omega | (simp [size_put]; done) | (simp [size_put]; omega)))); (have := hb4.size; simp [size_put] at this; omega)))
    ((go_at_call 19; refine (unhide C3 w3.heap.size l1 l2 h _ ?_).mono ?_; (go_simp); rintro e' w4 ⟨rfl, hb4⟩))
  go_split_ands
  rename_i hk4 hr4 hm4 B4 ck4
  clear hb4 hk3 hr3 ho3 B3 ck3
  go_wp2_with fail
  go_ret
  exact ⟨rfl, B4⟩

set_option maxRecDepth 100000 in
set_option maxHeartbeats 3200000 in
theorem walk_C6 (t : Int) (f e : Nat → Int) (tag : Int) (m : Nat → Int) (l1 l2 : Int) (h : Bool) (oe : Nat → Int) (ol ol2 : Int) (T : Int) (M : Nat → Int) (w : World)
    (C1 : Hid (∀ b l1 l2 h w, blkOf w b = routeL t f e tag m l1 l2 h → Calls Try.prog 19 #[.pointer (some ⟨b, 0, none⟩)] w fun e' w' => e' = .returned (.agg (keyL t f zf 0 zf).toArray) ∧ Below w.heap.size w w'))
    (C2 : Hid (∀ b l1 l2 h w, blkOf w b = routeL t f zf 0 zf l1 l2 h → Calls Try.prog 19 #[.pointer (some ⟨b, 0, none⟩)] w fun e' w' => e' = .returned (.agg (keyL t f zf 0 zf).toArray) ∧ Below w.heap.size w w'))
    (C3 : Hid (∀ b l1 l2 h w, blkOf w b = routeL t f oe tag m l1 l2 h → Calls Try.prog 19 #[.pointer (some ⟨b, 0, none⟩)] w fun e' w' => e' = .returned (.agg (keyL t f zf 0 zf).toArray) ∧ Below w.heap.size w w'))
    (t1 : (t == 1) = false) (t4 : (t == 4) = false) (t0 : (t == 0) = false) (t5 : 5 < t) :
    Calls Try.prog 6 #[.int .u8 t, .agg (arr 8 f).toArray, .agg (arr 10 e).toArray, .int .u32 tag, .agg (arr 6 m).toArray, .int .u32 l1, .int .u32 l2, .bool h, .agg (arr 10 oe).toArray, .int .u32 ol, .int .u32 ol2] w
      fun e w' => e = .returned (.bool true) ∧ Below w.heap.size w w' := by
  go_enter Try.func6, Try.ntmps6
  go_wp2_with fail
  refine (unhide C1 (w.heap.size + 4) l1 l2 h _ (by go_simp)).mono ?_
  rintro e' w1 ⟨rfl, hb1⟩
  have s1 : w.heap.size + 5 ≤ w1.heap.size := by have := hb1.size; simpa [size_put] using this
  have hr1 : blkOf w1 (w.heap.size + 4) = routeL t f e tag m l1 l2 h := by rw [blk_below hb1 (by simp [size_put])]; go_simp
  have ho1 : blkOf w1 (w.heap.size + 3) = arr 10 oe := by rw [blk_below hb1 (by simp [size_put])]; go_simp
  have B1 : Below w.heap.size w w1 := by
    refine Below.trans ?_ (hb1.mono (by simp [size_put]; omega))
    ((repeat' (with_reducible (first | exact Below.refl _ _ | assumption | refine below_put _ ?_ ?_ _ | refine Below.drew ?_ | refine Below.alloc ?_ ?_ _))) <;> (first | omega | (simp [size_put]; done) | (simp [size_put]; omega)))
  clear hb1
  have cr : w.heap.size + 4 < w1.heap.size := by omega
  have co : w.heap.size + 3 < w1.heap.size := by omega
  generalize w.heap.size + 4 = rb at *
  generalize w.heap.size + 3 = ob at *
  have n0_w1 : ¬ rb = w1.heap.size := by omega
  have o0_w1 : ¬ rb = w1.heap.size + 1 := by omega
  have n1_w1 : ¬ ob = w1.heap.size := by omega
  have o1_w1 : ¬ ob = w1.heap.size + 1 := by omega
  go_wp2_with fail
  go_region_held3 (fun W => blkOf W w1.heap.size = keyL t f zf 0 zf ∧ blkOf W rb = routeL t f e tag m l1 l2 h ∧ blkOf W ob = arr 10 oe ∧ Below w.heap.size w W ∧ w1.heap.size < W.heap.size)
    (first | (refine ⟨?_, ?_, ?_, ?_, ?_⟩; (go_simp); (go_simp); (go_simp); ((repeat' (with_reducible (first | exact Below.refl _ _ | assumption | refine below_put _ ?_ ?_ _ | refine Below.drew ?_ | refine Below.alloc ?_ ?_ _))) <;> (first | omega | (simp [size_put]; done) | (simp [size_put]; omega))); (simp [size_put] <;> omega))
           | (refine ⟨?_, ?_, ?_, ?_, ?_⟩; (rw [blk_below hb2 (by simp [size_put] <;> omega)]; go_simp); (rw [blk_below hb2 (by simp [size_put] <;> omega)]; go_simp); (rw [blk_below hb2 (by simp [size_put] <;> omega)]; go_simp); (refine Below.trans ?_ (hb2.mono (by simp [size_put] <;> omega)); ((repeat' (with_reducible (first | exact Below.refl _ _ | assumption | refine below_put _ ?_ ?_ _ | refine Below.drew ?_ | refine Below.alloc ?_ ?_ _))) <;> (first | omega | (simp [size_put]; done) | (simp [size_put]; omega)))); (have := hb2.size; simp [size_put] at this; omega)))
    ((go_at_call 19; refine (unhide C2 (w1.heap.size + 1) 0 0 false _ ?_).mono ?_; (go_simp); rintro e' w2 ⟨rfl, hb2⟩))
  go_split_ands
  rename_i hk2 hr2 ho2 B2 ck2
  have z2 : w.heap.size ≤ w2.heap.size := B2.size
  have cr2 : rb < w2.heap.size := blk_lt (o := 0) (by rw [hr2, len_route]; decide)
  have co2 : ob < w2.heap.size := blk_lt (o := 0) (by rw [ho2, len_arr]; decide)
  clear hb2
  clear hr1 ho1 B1 s1 n0_w1 n1_w1 o0_w1 o1_w1 cr co
  generalize w1.heap.size = kb at *
  have n0_w2 : ¬ rb = w2.heap.size := by omega
  have o0_w2 : ¬ rb = w2.heap.size + 1 := by omega
  have n1_w2 : ¬ ob = w2.heap.size := by omega
  have o1_w2 : ¬ ob = w2.heap.size + 1 := by omega
  have n2_w2 : ¬ kb = w2.heap.size := by omega
  have o2_w2 : ¬ kb = w2.heap.size + 1 := by omega
  go_wp2_with fail
  go_region_held3 (fun W => blkOf W kb = keyL t f zf 0 zf ∧ blkOf W rb = routeL t f e tag m l1 l2 h ∧ blkOf W ob = arr 10 oe ∧ Below w.heap.size w W ∧ kb < W.heap.size)
    (first | (refine ⟨?_, ?_, ?_, ?_, ?_⟩; (go_simp); (go_simp); (go_simp); ((repeat' (with_reducible (first | exact Below.refl _ _ | assumption | refine below_put _ ?_ ?_ _ | refine Below.drew ?_ | refine Below.alloc ?_ ?_ _))) <;> (first | omega | (simp [size_put]; done) | (simp [size_put]; omega))); (simp [size_put] <;> omega))
           | (refine ⟨?_, ?_, ?_, ?_, ?_⟩; (rw [blk_below hb3 (by simp [size_put] <;> omega)]; go_simp); (rw [blk_below hb3 (by simp [size_put] <;> omega)]; go_simp); (rw [blk_below hb3 (by simp [size_put] <;> omega)]; go_simp); (refine Below.trans ?_ (hb3.mono (by simp [size_put] <;> omega)); ((repeat' (with_reducible (first | exact Below.refl _ _ | assumption | refine below_put _ ?_ ?_ _ | refine Below.drew ?_ | refine Below.alloc ?_ ?_ _))) <;> (first | omega | (simp [size_put]; done) | (simp [size_put]; omega)))); (have := hb3.size; simp [size_put] at this; omega)))
    ((go_at_call 19; refine (unhide C1 w2.heap.size ol ol2 (!h) _ ?_).mono ?_; (go_simp); rintro e' w3 ⟨rfl, hb3⟩))
  go_split_ands
  rename_i hk3 hr3 ho3 B3 ck3
  have z3 : w.heap.size ≤ w3.heap.size := B3.size
  have cr3 : rb < w3.heap.size := blk_lt (o := 0) (by rw [hr3, len_route]; decide)
  have co3 : ob < w3.heap.size := blk_lt (o := 0) (by rw [ho3, len_arr]; decide)
  clear hb3
  clear hk2 hr2 ho2 B2 ck2 cr2 co2 n0_w2 n1_w2 n2_w2 o0_w2 o1_w2 o2_w2
  have n0_w3 : ¬ rb = w3.heap.size := by omega
  have o0_w3 : ¬ rb = w3.heap.size + 1 := by omega
  have n1_w3 : ¬ ob = w3.heap.size := by omega
  have o1_w3 : ¬ ob = w3.heap.size + 1 := by omega
  have n2_w3 : ¬ kb = w3.heap.size := by omega
  have o2_w3 : ¬ kb = w3.heap.size + 1 := by omega
  go_wp2_with fail
  go_region_held3 (fun W => blkOf W kb = keyL t f zf 0 zf ∧ blkOf W rb = routeL t f e tag m l1 l2 h ∧ blkOf W w3.heap.size = routeL t f oe tag m l1 l2 h ∧ Below w.heap.size w W ∧ kb < W.heap.size)
    (first | (refine ⟨?_, ?_, ?_, ?_, ?_⟩; (go_simp); (go_simp); (go_simp); ((repeat' (with_reducible (first | exact Below.refl _ _ | assumption | refine below_put _ ?_ ?_ _ | refine Below.drew ?_ | refine Below.alloc ?_ ?_ _))) <;> (first | omega | (simp [size_put]; done) | (simp [size_put]; omega))); (simp [size_put] <;> omega))
           | (refine ⟨?_, ?_, ?_, ?_, ?_⟩; (rw [blk_below hb4 (by simp [size_put] <;> omega)]; go_simp); (rw [blk_below hb4 (by simp [size_put] <;> omega)]; go_simp); (rw [blk_below hb4 (by simp [size_put] <;> omega)]; go_simp); (refine Below.trans ?_ (hb4.mono (by simp [size_put] <;> omega)); ((repeat' (with_reducible (first | exact Below.refl _ _ | assumption | refine below_put _ ?_ ?_ _ | refine Below.drew ?_ | refine Below.alloc ?_ ?_ _))) <;> (first | omega | (simp [size_put]; done) | (simp [size_put]; omega)))); (have := hb4.size; simp [size_put] at this; omega)))
    ((go_at_call 19; refine (unhide C3 w3.heap.size l1 l2 h _ ?_).mono ?_; (go_simp); rintro e' w4 ⟨rfl, hb4⟩))
  go_split_ands
  rename_i hk4 hr4 hm4 B4 ck4
  clear hb4 hk3 hr3 ho3 B3 ck3
  go_wp2_with fail
  go_ret
  exact ⟨rfl, B4⟩

theorem walk (t : Int) (f e : Nat → Int) (tag : Int) (m : Nat → Int) (l1 l2 : Int) (h : Bool) (oe : Nat → Int) (ol ol2 : Int) (w : World) :
    Calls Try.prog 6 #[.int .u8 t, .agg (arr 8 f).toArray, .agg (arr 10 e).toArray, .int .u32 tag, .agg (arr 6 m).toArray, .int .u32 l1, .int .u32 l2, .bool h, .agg (arr 10 oe).toArray, .int .u32 ol, .int .u32 ol2] w
      fun e w' => e = .returned (.bool true) ∧ Below w.heap.size w w' := by
  have ct := kT_idem t tag
  have cm := kM_idem t m
  by_cases hA : t = 1 ∨ t = 4
  · have cE : ∀ e, kE t e = e := fun e => by unfold kE; rw [if_pos hA]
    have C1 : Hid (∀ b l1 l2 h w, blkOf w b = routeL t f e tag m l1 l2 h → Calls Try.prog 19 #[.pointer (some ⟨b, 0, none⟩)] w fun e' w' => e' = .returned (.agg (keyL t f e (kT t tag) (kM t m)).toArray) ∧ Below w.heap.size w w') :=
      hide fun b l1 l2 h w hb => by have := key_calls b t f e tag m l1 l2 h w hb; rw [cE] at this; exact this
    have C2 : Hid (∀ b l1 l2 h w, blkOf w b = routeL t f e (kT t tag) (kM t m) l1 l2 h → Calls Try.prog 19 #[.pointer (some ⟨b, 0, none⟩)] w fun e' w' => e' = .returned (.agg (keyL t f e (kT t tag) (kM t m)).toArray) ∧ Below w.heap.size w w') :=
      hide fun b l1 l2 h w hb => by have := key_calls b t f e (kT t tag) (kM t m) l1 l2 h w hb; rw [cE, ct, cm] at this; exact this
    have C3 : Hid (∀ b l1 l2 h w, blkOf w b = routeL t f oe tag m l1 l2 h → Calls Try.prog 19 #[.pointer (some ⟨b, 0, none⟩)] w fun e' w' => e' = .returned (.agg (keyL t f oe (kT t tag) (kM t m)).toArray) ∧ Below w.heap.size w w') :=
      hide fun b l1 l2 h w hb => by have := key_calls b t f oe tag m l1 l2 h w hb; rw [cE] at this; exact this
    by_cases h1 : t = 1
    · exact walk_A1 t f e tag m l1 l2 h oe ol ol2 (kT t tag) (kM t m) w C1 C2 C3 (by simp [h1]) (by simp [h1]) (by omega)
    · have h4 : t = 4 := by omega
      exact walk_A4 t f e tag m l1 l2 h oe ol ol2 (kT t tag) (kM t m) w C1 C2 C3 (by simp [h1]) (by simp [h4]) (by simp [h4]) (by omega)
  · have cE : ∀ e, kE t e = zf := fun e => by unfold kE; rw [if_neg hA]
    have C1 : Hid (∀ b l1 l2 h w, blkOf w b = routeL t f e tag m l1 l2 h → Calls Try.prog 19 #[.pointer (some ⟨b, 0, none⟩)] w fun e' w' => e' = .returned (.agg (keyL t f zf (kT t tag) (kM t m)).toArray) ∧ Below w.heap.size w w') :=
      hide fun b l1 l2 h w hb => by have := key_calls b t f e tag m l1 l2 h w hb; rw [cE] at this; exact this
    have C2 : Hid (∀ b l1 l2 h w, blkOf w b = routeL t f zf (kT t tag) (kM t m) l1 l2 h → Calls Try.prog 19 #[.pointer (some ⟨b, 0, none⟩)] w fun e' w' => e' = .returned (.agg (keyL t f zf (kT t tag) (kM t m)).toArray) ∧ Below w.heap.size w w') :=
      hide fun b l1 l2 h w hb => by have := key_calls b t f zf (kT t tag) (kM t m) l1 l2 h w hb; rw [cE, ct, cm] at this; exact this
    have C3 : Hid (∀ b l1 l2 h w, blkOf w b = routeL t f oe tag m l1 l2 h → Calls Try.prog 19 #[.pointer (some ⟨b, 0, none⟩)] w fun e' w' => e' = .returned (.agg (keyL t f zf (kT t tag) (kM t m)).toArray) ∧ Below w.heap.size w w') :=
      hide fun b l1 l2 h w hb => by have := key_calls b t f oe tag m l1 l2 h w hb; rw [cE] at this; exact this
    have n1 : ¬ t = 1 := fun x => hA (Or.inl x)
    have n4 : ¬ t = 4 := fun x => hA (Or.inr x)
    by_cases h0 : t = 0
    · have eT : kT t tag = 0 := by unfold kT; rw [if_neg (by omega)]
      have eM : kM t m = zf := by unfold kM; rw [if_neg (by omega)]
      rw [eT, eM] at C1 C2 C3
      exact walk_C0 t f e tag m l1 l2 h oe ol ol2 0 zf w C1 C2 C3 (by simp [n1]) (by simp [n4]) (by simp [h0])
    · by_cases h5 : 5 < t
      · have eT : kT t tag = 0 := by unfold kT; rw [if_neg (by omega)]
        have eM : kM t m = zf := by unfold kM; rw [if_neg (by omega)]
        rw [eT, eM] at C1 C2 C3
        exact walk_C6 t f e tag m l1 l2 h oe ol ol2 0 zf w C1 C2 C3 (by simp [n1]) (by simp [n4]) (by simp [h0]) h5
      · exact walk_B t f e tag m l1 l2 h oe ol ol2 (kT t tag) (kM t m) w C1 C2 C3 (by simp [n1]) (by simp [n4]) (by simp [h0]) h5
end Go.Proofs.Qxb6002605a
