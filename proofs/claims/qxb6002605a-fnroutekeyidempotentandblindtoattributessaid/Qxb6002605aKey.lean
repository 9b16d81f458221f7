/- (*Route).Key -/
import Derived.Test.Qxb6002605aKeyLaws
namespace Go.Proofs.Qxb6002605a
open Go.ChangeShapes Go.WideShapes Go.ChangeAt Go.RowKit
set_option linter.unusedVariables false
attribute [local go_sem ↓] ex_load ex_store ex_alloc ex_build
attribute [local go_sem] setCells_put alloc68 alloc66 build68 ld58 ld34 ld59 ld60 ld61 ld49 ld64 ld68 ld66 lv68 st60 st61 st49 st64 st68 st66 st34 st62 st4 blk_drew blk_drewN blk_alloc blk_put size_put len_key len_route k0 k1 k2 k3 k4 k5 k6 kk r0 r1 r2 r3 r4 r5 r6 rr ov_key ov_route ov_k2 ov_k3 ov_k4 ov_k5 ov_k6

attribute [local simp] len_key
theorem res19 (tmps : Array Value) (W : World) (b : Nat) (t : Int) (f e : Nat → Int) (tag : Int) (m : Nat → Int) (h2 : tmps.getD 2 undef = .pointer (some ⟨b, 0, none⟩)) (hK : blkOf W b = keyL t f e tag m) :
    (results Try.f19 tmps).run Try.prog W = .ok (.agg (keyL t f e tag m).toArray) W := by
  have h3 := lv68 W b 0 (by rw [hK, len_key]; decide)
  rw [hK, kk] at h3
  have h4 : (results Try.f19 tmps).run Try.prog W = ((asAddr (tmps.getD 2 undef)).run Try.prog W).andThen fun a w₁ => (loadVar 68 a).run Try.prog w₁ := by
    simp only [results, Try.results19]
    simp [Sem.run_bind, Result.andThen]
  rw [h4, h2]
  simp [asAddr, h3]

def keyOf (t : Int) (f e : Nat → Int) (tag : Int) (m : Nat → Int) : List Value :=
  keyL t f (if t = 1 ∨ t = 4 then e else zf) (if t = 1 ∨ t = 2 ∨ t = 3 ∨ t = 5 then tag else 0) (if t = 2 then m else zf)

set_option maxRecDepth 100000 in
set_option maxHeartbeats 800000 in
theorem key_other (b : Nat) (t : Int) (f e : Nat → Int) (tag : Int) (m : Nat → Int) (l1 l2 : Int) (h : Bool) (w : World)
    (h0 : blkOf w b = routeL t f e tag m l1 l2 h)
    (t1 : (t == 1) = false) (t2 : (t == 2) = false) (t3 : (t == 3) = false) (t4 : (t == 4) = false) (t5 : (t == 5) = false) :
    Calls Try.prog 19 #[.pointer (some ⟨b, 0, none⟩)] w fun e w' => e = .returned (.agg (keyL t f zf 0 zf).toArray) ∧ Below w.heap.size w w' := by
  have hb : b < w.heap.size := blk_lt (o := 0) (by rw [h0, len_route]; decide)
  have hne : ¬ b = w.heap.size := by omega
  have hne1 : ¬ b = w.heap.size + 1 := by omega
  go_enter Try.func19, Try.ntmps19
  go_wp2
  go_region_held3 (fun W => blkOf W b = routeL t f e tag m l1 l2 h) (go_simp) (fail)
  go_wp2
  refine bodyPost_ret (v := .agg (keyL t f zf 0 zf).toArray) (res19 _ _ w.heap.size _ _ _ _ _ rfl (by go_simp)) rfl ⟨rfl, ?_⟩
  repeat (with_reducible (first | refine below_put _ ?_ (by simp) _ | refine Below.drew ?_ | refine Below.alloc ?_ (by simp) _ | exact Below.refl _ _))

set_option maxRecDepth 100000 in
set_option maxHeartbeats 1600000 in
theorem key_1 (b : Nat) (t : Int) (f e : Nat → Int) (tag : Int) (m : Nat → Int) (l1 l2 : Int) (h : Bool) (w : World)
    (h0 : blkOf w b = routeL t f e tag m l1 l2 h)  (t1 : (t == 1) = true) :
    Calls Try.prog 19 #[.pointer (some ⟨b, 0, none⟩)] w fun e' w' => e' = .returned (.agg (keyL t f e tag zf).toArray) ∧ Below w.heap.size w w' := by
  have hb : b < w.heap.size := blk_lt (o := 0) (by rw [h0, len_route]; decide)
  have hne : ¬ b = w.heap.size := by omega
  have hne1 : ¬ b = w.heap.size + 1 := by omega
  go_enter Try.func19, Try.ntmps19
  go_wp2
  go_region_held3 (fun W => blkOf W b = routeL t f e tag m l1 l2 h) (go_simp) (fail)
  go_wp2
  go_region
  all_goals (
    go_wp2
    refine bodyPost_ret (v := .agg (keyL t f e tag zf).toArray) (res19 _ _ w.heap.size _ _ _ _ _ rfl (by go_simp)) rfl ⟨rfl, ?_⟩
    repeat (with_reducible (first | refine below_put _ ?_ (by simp) _ | refine Below.drew ?_ | refine Below.alloc ?_ (by simp) _ | exact Below.refl _ _)))

set_option maxRecDepth 100000 in
set_option maxHeartbeats 1600000 in
theorem key_2 (b : Nat) (t : Int) (f e : Nat → Int) (tag : Int) (m : Nat → Int) (l1 l2 : Int) (h : Bool) (w : World)
    (h0 : blkOf w b = routeL t f e tag m l1 l2 h) (t1 : (t == 1) = false) (t2 : (t == 2) = true) :
    Calls Try.prog 19 #[.pointer (some ⟨b, 0, none⟩)] w fun e' w' => e' = .returned (.agg (keyL t f zf tag m).toArray) ∧ Below w.heap.size w w' := by
  have hb : b < w.heap.size := blk_lt (o := 0) (by rw [h0, len_route]; decide)
  have hne : ¬ b = w.heap.size := by omega
  have hne1 : ¬ b = w.heap.size + 1 := by omega
  go_enter Try.func19, Try.ntmps19
  go_wp2
  go_region_held3 (fun W => blkOf W b = routeL t f e tag m l1 l2 h) (go_simp) (fail)
  go_wp2
  go_region
  all_goals (
    go_wp2
    refine bodyPost_ret (v := .agg (keyL t f zf tag m).toArray) (res19 _ _ w.heap.size _ _ _ _ _ rfl (by go_simp)) rfl ⟨rfl, ?_⟩
    repeat (with_reducible (first | refine below_put _ ?_ (by simp) _ | refine Below.drew ?_ | refine Below.alloc ?_ (by simp) _ | exact Below.refl _ _)))

set_option maxRecDepth 100000 in
set_option maxHeartbeats 1600000 in
theorem key_3 (b : Nat) (t : Int) (f e : Nat → Int) (tag : Int) (m : Nat → Int) (l1 l2 : Int) (h : Bool) (w : World)
    (h0 : blkOf w b = routeL t f e tag m l1 l2 h) (t1 : (t == 1) = false) (t2 : (t == 2) = false) (t3 : (t == 3) = true) :
    Calls Try.prog 19 #[.pointer (some ⟨b, 0, none⟩)] w fun e' w' => e' = .returned (.agg (keyL t f zf tag zf).toArray) ∧ Below w.heap.size w w' := by
  have hb : b < w.heap.size := blk_lt (o := 0) (by rw [h0, len_route]; decide)
  have hne : ¬ b = w.heap.size := by omega
  have hne1 : ¬ b = w.heap.size + 1 := by omega
  go_enter Try.func19, Try.ntmps19
  go_wp2
  go_region_held3 (fun W => blkOf W b = routeL t f e tag m l1 l2 h) (go_simp) (fail)
  go_wp2
  go_region
  all_goals (
    go_wp2
    refine bodyPost_ret (v := .agg (keyL t f zf tag zf).toArray) (res19 _ _ w.heap.size _ _ _ _ _ rfl (by go_simp)) rfl ⟨rfl, ?_⟩
    repeat (with_reducible (first | refine below_put _ ?_ (by simp) _ | refine Below.drew ?_ | refine Below.alloc ?_ (by simp) _ | exact Below.refl _ _)))

set_option maxRecDepth 100000 in
set_option maxHeartbeats 1600000 in
theorem key_4 (b : Nat) (t : Int) (f e : Nat → Int) (tag : Int) (m : Nat → Int) (l1 l2 : Int) (h : Bool) (w : World)
    (h0 : blkOf w b = routeL t f e tag m l1 l2 h) (t1 : (t == 1) = false) (t2 : (t == 2) = false) (t3 : (t == 3) = false) (t4 : (t == 4) = true) :
    Calls Try.prog 19 #[.pointer (some ⟨b, 0, none⟩)] w fun e' w' => e' = .returned (.agg (keyL t f e 0 zf).toArray) ∧ Below w.heap.size w w' := by
  have hb : b < w.heap.size := blk_lt (o := 0) (by rw [h0, len_route]; decide)
  have hne : ¬ b = w.heap.size := by omega
  have hne1 : ¬ b = w.heap.size + 1 := by omega
  go_enter Try.func19, Try.ntmps19
  go_wp2
  go_region_held3 (fun W => blkOf W b = routeL t f e tag m l1 l2 h) (go_simp) (fail)
  go_wp2
  go_region
  all_goals (
    go_wp2
    refine bodyPost_ret (v := .agg (keyL t f e 0 zf).toArray) (res19 _ _ w.heap.size _ _ _ _ _ rfl (by go_simp)) rfl ⟨rfl, ?_⟩
    repeat (with_reducible (first | refine below_put _ ?_ (by simp) _ | refine Below.drew ?_ | refine Below.alloc ?_ (by simp) _ | exact Below.refl _ _)))

set_option maxRecDepth 100000 in
set_option maxHeartbeats 1600000 in
theorem key_5 (b : Nat) (t : Int) (f e : Nat → Int) (tag : Int) (m : Nat → Int) (l1 l2 : Int) (h : Bool) (w : World)
    (h0 : blkOf w b = routeL t f e tag m l1 l2 h) (t1 : (t == 1) = false) (t2 : (t == 2) = false) (t3 : (t == 3) = false) (t4 : (t == 4) = false) (t5 : (t == 5) = true) :
    Calls Try.prog 19 #[.pointer (some ⟨b, 0, none⟩)] w fun e' w' => e' = .returned (.agg (keyL t f zf tag zf).toArray) ∧ Below w.heap.size w w' := by
  have hb : b < w.heap.size := blk_lt (o := 0) (by rw [h0, len_route]; decide)
  have hne : ¬ b = w.heap.size := by omega
  have hne1 : ¬ b = w.heap.size + 1 := by omega
  go_enter Try.func19, Try.ntmps19
  go_wp2
  go_region_held3 (fun W => blkOf W b = routeL t f e tag m l1 l2 h) (go_simp) (fail)
  go_wp2
  go_region
  all_goals (
    go_wp2
    refine bodyPost_ret (v := .agg (keyL t f zf tag zf).toArray) (res19 _ _ w.heap.size _ _ _ _ _ rfl (by go_simp)) rfl ⟨rfl, ?_⟩
    repeat (with_reducible (first | refine below_put _ ?_ (by simp) _ | refine Below.drew ?_ | refine Below.alloc ?_ (by simp) _ | exact Below.refl _ _)))

theorem key_any (b : Nat) (t : Int) (f e : Nat → Int) (tag : Int) (m : Nat → Int) (l1 l2 : Int) (h : Bool) (w : World)
    (h0 : blkOf w b = routeL t f e tag m l1 l2 h) :
    Calls Try.prog 19 #[.pointer (some ⟨b, 0, none⟩)] w fun e' w' => e' = .returned (.agg (keyOf t f e tag m).toArray) ∧ Below w.heap.size w w' := by
  by_cases t1 : t = 1
  · have hk : keyOf t f e tag m = keyL t f e tag zf := by subst t1; simp [keyOf]
    rw [hk]
    exact key_1 b t f e tag m l1 l2 h w h0 (by simp [t1])
  · by_cases t2 : t = 2
    · have hk : keyOf t f e tag m = keyL t f zf tag m := by subst t2; simp [keyOf]
      rw [hk]
      exact key_2 b t f e tag m l1 l2 h w h0 (by simp [t1]) (by simp [t2])
    · by_cases t3 : t = 3
      · have hk : keyOf t f e tag m = keyL t f zf tag zf := by subst t3; simp [keyOf]
        rw [hk]
        exact key_3 b t f e tag m l1 l2 h w h0 (by simp [t1]) (by simp [t2]) (by simp [t3])
      · by_cases t4 : t = 4
        · have hk : keyOf t f e tag m = keyL t f e 0 zf := by subst t4; simp [keyOf]
          rw [hk]
          exact key_4 b t f e tag m l1 l2 h w h0 (by simp [t1]) (by simp [t2]) (by simp [t3]) (by simp [t4])
        · by_cases t5 : t = 5
          · have hk : keyOf t f e tag m = keyL t f zf tag zf := by subst t5; simp [keyOf]
            rw [hk]
            exact key_5 b t f e tag m l1 l2 h w h0 (by simp [t1]) (by simp [t2]) (by simp [t3]) (by simp [t4]) (by simp [t5])
          · have hk : keyOf t f e tag m = keyL t f zf 0 zf := by simp [keyOf, t1, t2, t3, t4, t5]
            rw [hk]
            exact key_other b t f e tag m l1 l2 h w h0 (by simp [t1]) (by simp [t2]) (by simp [t3]) (by simp [t4]) (by simp [t5])
end Go.Proofs.Qxb6002605a
