/- A proof of 'Rows.FnRouteKeyIdempotentAndBlindToAttributesSaid': the frame, after the kit's shells. -/
import Derived.Test.Qxb6002605aKeyWalk
import Derived.WalkKit
import Derived.ProofKit
import Derived.OpenShut
import Derived.ChangeOld
import Derived.Below
namespace Go.Proofs.Qxb6002605a.fnRouteKeyIdempotentAndBlindToAttributes
open Go.ChangeShapes Go.WideShapes Go.ChangeAt Go.RowKit
set_option linter.unusedVariables false

theorem own : ownKnob Try.prog.godebug = none := by kernel_rfl
theorem laidOut : laidOutB Try.prog = true := by kernel_rfl
theorem c5 : Try.prog.cellsOf 5 = 1 := by kernel_rfl
theorem c39 : Try.prog.cellsOf 39 = 8 := by kernel_rfl
theorem c56 : Try.prog.cellsOf 56 = 10 := by kernel_rfl
theorem c57 : Try.prog.cellsOf 57 = 6 := by kernel_rfl

theorem okWide_row {W : World} {r : Reach} {base : Nat} {ty n : Nat} {v : Value} (ht : Try.prog.underlying ty = some (.array n 5)) (h : Value.okWide Try.prog W r base ty v) : ∃ cs, v = .agg cs ∧ cs.size = Try.prog.cellsOf ty := by
  simp only [Value.okWide, ht] at h
  obtain ⟨cs, h1, h2, _⟩ := h
  exact ⟨cs, h1, h2⟩
theorem open_row {H : Type} {enc : TypeId × Value → H} {W : World} {r : Reach} {base b0 : Nat} {spare : Nat → Bool} {held : Bool} {ty n : Nat} {v : Value} {d : DataW H} {p : List MemPlace}
    (ht : Try.prog.underlying ty = some (.array n 5)) (hc : Try.prog.cellsOf ty = n) (hv : Value.okWide Try.prog W r b0 ty v) (h : DataW.Trod enc Try.prog W base spare held ty v d p) : ∃ f, v = .agg (arr n f).toArray := by
  obtain ⟨cs, rfl, hsz⟩ := okWide_row ht hv
  obtain ⟨fuel, hf⟩ := h
  obtain ⟨xs, m, _, _, hl, hlen, hi⟩ := DataW.trod_array ht hf
  rw [hc] at hsz
  refine ⟨fun i => match cs[i]? with | some (.int _ z) => z | _ => 0, ?_⟩
  congr 1
  apply Array.ext
  · simp [hsz, arr]
  · intro i h1 h2
    have hin : i < n := by omega
    have hx := hi i hin
    rw [c5, List.getElem?_eq_getElem (by omega)] at hx
    obtain ⟨z, hz, _, _⟩ := DataW.trod_int Try.underlying5 hx
    have hz' : cs[i] = .int .u8 z := by
      have h3 : ((cs.toList.drop (i * 1)).take 1)[0]? = some (.int .u8 z) := by
        have : (Value.agg cs).cells.toList = cs.toList := rfl
        rw [← this, hz]; rfl
      simpa [h1] using h3
    simp [arr, hz', h1]

set_option maxRecDepth 100000 in
theorem lifted (os : Os) (started : os.Started) (H : Type) (enc : TypeId × Value → H) :
    ReturnsInHanded {} Try.checked os 6 .any (Rows.fnRouteKeyIdempotentAndBlindToAttributesSpec.pre6 enc Try.prog Try.f6 Rows.fnRouteKeyIdempotentAndBlindToAttributesRow.domain false) (Rows.fnRouteKeyIdempotentAndBlindToAttributesSpec.post enc Try.prog Try.f6 false true false false) := by
  refine returnsInHanded_of_change (C := Try.checked) own started (by kernel_rfl) Try.func6
    (ChangeSpec.witness6 (enc := enc) (C := Try.checked) false ⟨#[], #[.int .u8 0, .agg (arr 8 zf).toArray, .agg (arr 10 zf).toArray, .int .u32 0, .agg (arr 6 zf).toArray, .int .u32 0, .int .u32 0, .bool false, .agg (arr 10 zf).toArray, .int .u32 0, .int .u32 0], []⟩ 8 (by kernel_rfl) (by kernel_rfl) (by kernel_rfl) (by kernel_rfl)) ?_
  intro W base args ds gs before hval0 hW hcnd _
  have hval : ∀ (j : Nat) t v, Try.f6.params[j]? = some t → args[j]? = some v → Value.okWide Try.prog W .any base t v := hval0
  have hW' := hW
  obtain ⟨p, q, hA0, hV, rfl, hfz, hnd⟩ := hW
  have hA : DataW.TrodAll enc Try.prog W 0 (fun _ => true) true Try.f6.params.toList args.toList ds p := hA0
  rw [Try.params6] at hA hval
  obtain ⟨v0, vs0, d0, ds0, p0, q0, hargs, rfl, rfl, h0, s0⟩ := trodAll_cons hA
  obtain ⟨v1, vs1, d1, ds1, p1, q1, rfl, rfl, rfl, h1, s1⟩ := trodAll_cons s0
  obtain ⟨v2, vs2, d2, ds2, p2, q2, rfl, rfl, rfl, h2, s2⟩ := trodAll_cons s1
  obtain ⟨v3, vs3, d3, ds3, p3, q3, rfl, rfl, rfl, h3, s3⟩ := trodAll_cons s2
  obtain ⟨v4, vs4, d4, ds4, p4, q4, rfl, rfl, rfl, h4, s4⟩ := trodAll_cons s3
  obtain ⟨v5, vs5, d5, ds5, p5, q5, rfl, rfl, rfl, h5, s5⟩ := trodAll_cons s4
  obtain ⟨v6, vs6, d6, ds6, p6, q6, rfl, rfl, rfl, h6, s6⟩ := trodAll_cons s5
  obtain ⟨v7, vs7, d7, ds7, p7, q7, rfl, rfl, rfl, h7, s7⟩ := trodAll_cons s6
  obtain ⟨v8, vs8, d8, ds8, p8, q8, rfl, rfl, rfl, h8, s8⟩ := trodAll_cons s7
  obtain ⟨v9, vs9, d9, ds9, p9, q9, rfl, rfl, rfl, h9, s9⟩ := trodAll_cons s8
  obtain ⟨v10, vs10, d10, ds10, p10, q10, rfl, rfl, rfl, h10, s10⟩ := trodAll_cons s9
  obtain ⟨rfl, rfl, rfl⟩ := trodAll_nil s10
  obtain rfl : args = #[v0, v1, v2, v3, v4, v5, v6, v7, v8, v9, v10] := by cases args; simp_all
  obtain ⟨rfl, rfl⟩ := trodVars_none hV
  have k0 := h0
  have lt0 : ∀ x ∈ p0, x.block < W.heap.size := by obtain ⟨m, hm⟩ := k0; exact DataW.trod_lt m _ _ _ hm
  have k1 := h1
  have lt1 : ∀ x ∈ p1, x.block < W.heap.size := by obtain ⟨m, hm⟩ := k1; exact DataW.trod_lt m _ _ _ hm
  have k2 := h2
  have lt2 : ∀ x ∈ p2, x.block < W.heap.size := by obtain ⟨m, hm⟩ := k2; exact DataW.trod_lt m _ _ _ hm
  have k3 := h3
  have lt3 : ∀ x ∈ p3, x.block < W.heap.size := by obtain ⟨m, hm⟩ := k3; exact DataW.trod_lt m _ _ _ hm
  have k4 := h4
  have lt4 : ∀ x ∈ p4, x.block < W.heap.size := by obtain ⟨m, hm⟩ := k4; exact DataW.trod_lt m _ _ _ hm
  have k5 := h5
  have lt5 : ∀ x ∈ p5, x.block < W.heap.size := by obtain ⟨m, hm⟩ := k5; exact DataW.trod_lt m _ _ _ hm
  have k6 := h6
  have lt6 : ∀ x ∈ p6, x.block < W.heap.size := by obtain ⟨m, hm⟩ := k6; exact DataW.trod_lt m _ _ _ hm
  have k7 := h7
  have lt7 : ∀ x ∈ p7, x.block < W.heap.size := by obtain ⟨m, hm⟩ := k7; exact DataW.trod_lt m _ _ _ hm
  have k8 := h8
  have lt8 : ∀ x ∈ p8, x.block < W.heap.size := by obtain ⟨m, hm⟩ := k8; exact DataW.trod_lt m _ _ _ hm
  have k9 := h9
  have lt9 : ∀ x ∈ p9, x.block < W.heap.size := by obtain ⟨m, hm⟩ := k9; exact DataW.trod_lt m _ _ _ hm
  have k10 := h10
  have lt10 : ∀ x ∈ p10, x.block < W.heap.size := by obtain ⟨m, hm⟩ := k10; exact DataW.trod_lt m _ _ _ hm
  obtain ⟨a0, rfl, -, -, -⟩ := open_int Try.underlying5 (hval 0 5 v0 rfl rfl) h0
  obtain ⟨a1, rfl⟩ := open_row Try.underlying39 c39 (hval 1 39 v1 rfl rfl) h1
  obtain ⟨a2, rfl⟩ := open_row Try.underlying56 c56 (hval 2 56 v2 rfl rfl) h2
  obtain ⟨a3, rfl, -, -, -⟩ := open_int Try.underlying34 (hval 3 34 v3 rfl rfl) h3
  obtain ⟨a4, rfl⟩ := open_row Try.underlying57 c57 (hval 4 57 v4 rfl rfl) h4
  obtain ⟨a5, rfl, -, -, -⟩ := open_int Try.underlying34 (hval 5 34 v5 rfl rfl) h5
  obtain ⟨a6, rfl, -, -, -⟩ := open_int Try.underlying34 (hval 6 34 v6 rfl rfl) h6
  obtain ⟨a7, rfl, -, -⟩ := open_bool Try.underlying4 (hval 7 4 v7 rfl rfl) h7
  obtain ⟨a8, rfl⟩ := open_row Try.underlying56 c56 (hval 8 56 v8 rfl rfl) h8
  obtain ⟨a9, rfl, -, -, -⟩ := open_int Try.underlying34 (hval 9 34 v9 rfl rfl) h9
  obtain ⟨a10, rfl, -, -, -⟩ := open_int Try.underlying34 (hval 10 34 v10 rfl rfl) h10
  clear hA0 hval0
  refine (walk a0 a1 a2 a3 a4 a5 a6 a7 a8 a9 a10 W).mono fun e W' ⟨he, bel⟩ => ?_
  subst he
  exact ⟨_, rfl, _, _, _, [], _, [], hW', trodAll_mk1 (shut_bool Try.underlying4 _), (trodAll_cons_mk (Below.trod laidOut (by kernel_rfl) (of_decide_eq_true (by kernel_rfl)) k0 bel lt0) (trodAll_cons_mk (Below.trod laidOut (by kernel_rfl) (of_decide_eq_true (by kernel_rfl)) k1 bel lt1) (trodAll_cons_mk (Below.trod laidOut (by kernel_rfl) (of_decide_eq_true (by kernel_rfl)) k2 bel lt2) (trodAll_cons_mk (Below.trod laidOut (by kernel_rfl) (of_decide_eq_true (by kernel_rfl)) k3 bel lt3) (trodAll_cons_mk (Below.trod laidOut (by kernel_rfl) (of_decide_eq_true (by kernel_rfl)) k4 bel lt4) (trodAll_cons_mk (Below.trod laidOut (by kernel_rfl) (of_decide_eq_true (by kernel_rfl)) k5 bel lt5) (trodAll_cons_mk (Below.trod laidOut (by kernel_rfl) (of_decide_eq_true (by kernel_rfl)) k6 bel lt6) (trodAll_cons_mk (Below.trod laidOut (by kernel_rfl) (of_decide_eq_true (by kernel_rfl)) k7 bel lt7) (trodAll_cons_mk (Below.trod laidOut (by kernel_rfl) (of_decide_eq_true (by kernel_rfl)) k8 bel lt8) (trodAll_cons_mk (Below.trod laidOut (by kernel_rfl) (of_decide_eq_true (by kernel_rfl)) k9 bel lt9) (trodAll_cons_mk (Below.trod laidOut (by kernel_rfl) (of_decide_eq_true (by kernel_rfl)) k10 bel lt10) trodAll_mk0))))))))))), rfl, bel.frame _, fun h => by cases h⟩

theorem over : Rows.fnRouteKeyIdempotentAndBlindToAttributesRow.holds Try.pinned (OpenSpec.ofChange Rows.fnRouteKeyIdempotentAndBlindToAttributesSpec) :=
  OpenClaim.holds_of_wide 6 Try.f6 rfl rfl rfl rfl rfl rfl rfl ⟨rfl, rfl, rfl, rfl, rfl⟩ rfl rfl rfl rfl rfl (by kernel_rfl) Try.func6 (by kernel_rfl)
    (of_decide_eq_true (by kernel_rfl)) (by unfold Func.isWrapper; first | (rw [if_pos (by decide +kernel)]; kernel_rfl) | (rw [if_neg (by decide +kernel)]; exact ⟨rfl, rfl⟩))
    (fun os started H enc _ => lifted os started H enc)

theorem proved : Rows.FnRouteKeyIdempotentAndBlindToAttributesSaid := over
end Go.Proofs.Qxb6002605a.fnRouteKeyIdempotentAndBlindToAttributes
