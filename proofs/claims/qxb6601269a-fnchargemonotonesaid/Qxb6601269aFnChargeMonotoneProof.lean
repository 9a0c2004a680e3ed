import Derived.Test.Qxb6601269aRows
import Derived.Test.Qxb6601269aMonoWalk
import Derived.WalkKit
import Derived.ProofKit
import Derived.OpenShut
import Derived.ShutString
import Derived.ChangeOld
import Derived.Below
namespace Go.Proofs.Qxb6601269a.fnChargeMonotone
open Go.ChangeShapes Go.WideShapes Go.ChangeAt Go.RowKit
open Go.ChangeMaps (open_string shut_string)
set_option linter.unusedVariables false

theorem own : ownKnob Try.prog.godebug = none := by kernel_rfl
theorem laidOut : laidOutB Try.prog = true := by kernel_rfl

/-- The rate, opened: eight integers. -/
theorem rate_open {H : Type} {enc : TypeId × Value → H} {W : World} {r : Reach} {b0 : Nat} {v : Value} {d : DataW H} {p : List MemPlace} (hv : Value.okWide Try.prog W r b0 24 v) (h : DataW.Trod enc Try.prog W 0 (fun _ => true) true 24 v d p) :
    ∃ td tl ts rd rl rs f base : Int, v = rateV td tl ts rd rl rs f base ∧ (Lit.int .i64 f).wf = true := by
  obtain ⟨cs, rfl, hsz⟩ := okWide_struct Try.underlying24 hv
  rw [show Try.prog.cellsOf 24 = 8 by kernel_rfl] at hsz
  obtain ⟨c0, c1, c2, c3, c4, c5, c6, c7, rfl⟩ : ∃ c0 c1 c2 c3 c4 c5 c6 c7, cs = #[c0, c1, c2, c3, c4, c5, c6, c7] := by
    match cs, hsz with
    | ⟨[c0, c1, c2, c3, c4, c5, c6, c7]⟩, _ => exact ⟨c0, c1, c2, c3, c4, c5, c6, c7, rfl⟩
  obtain ⟨fuel, hf⟩ := h
  obtain ⟨xs, n, _, _, _, hxl, hel⟩ := DataW.trod_struct Try.underlying24 hf
  have hx : ∀ i, i < 8 → ∃ x, xs[i]? = some x := fun i hi => ⟨_, List.getElem?_eq_getElem (by rw [hxl]; exact hi)⟩
  have z2 : Try.prog.cellsOf 2 = 1 := by kernel_rfl
  have z22 : Try.prog.cellsOf 22 = 1 := by kernel_rfl
  have z5 : Try.prog.cellsOf 5 = 1 := by kernel_rfl
  obtain ⟨x0, hx0⟩ := hx 0 (by omega)
  have e0 := hel 0 _ rfl
  rw [hx0] at e0
  obtain ⟨td, q0, _, w0⟩ := DataW.trod_int Try.underlying2 e0
  simp [Value.cells, z2] at q0
  obtain ⟨x1, hx1⟩ := hx 1 (by omega)
  have e1 := hel 1 _ rfl
  rw [hx1] at e1
  obtain ⟨tl, q1, _, w1⟩ := DataW.trod_int Try.underlying22 e1
  simp [Value.cells, z22] at q1
  obtain ⟨x2, hx2⟩ := hx 2 (by omega)
  have e2 := hel 2 _ rfl
  rw [hx2] at e2
  obtain ⟨ts, q2, _, w2⟩ := DataW.trod_int Try.underlying5 e2
  simp [Value.cells, z5] at q2
  obtain ⟨x3, hx3⟩ := hx 3 (by omega)
  have e3 := hel 3 _ rfl
  rw [hx3] at e3
  obtain ⟨rd, q3, _, w3⟩ := DataW.trod_int Try.underlying2 e3
  simp [Value.cells, z2] at q3
  obtain ⟨x4, hx4⟩ := hx 4 (by omega)
  have e4 := hel 4 _ rfl
  rw [hx4] at e4
  obtain ⟨rl, q4, _, w4⟩ := DataW.trod_int Try.underlying22 e4
  simp [Value.cells, z22] at q4
  obtain ⟨x5, hx5⟩ := hx 5 (by omega)
  have e5 := hel 5 _ rfl
  rw [hx5] at e5
  obtain ⟨rs, q5, _, w5⟩ := DataW.trod_int Try.underlying5 e5
  simp [Value.cells, z5] at q5
  obtain ⟨x6, hx6⟩ := hx 6 (by omega)
  have e6 := hel 6 _ rfl
  rw [hx6] at e6
  obtain ⟨f, q6, _, w6⟩ := DataW.trod_int Try.underlying2 e6
  simp [Value.cells, z2] at q6
  obtain ⟨x7, hx7⟩ := hx 7 (by omega)
  have e7 := hel 7 _ rfl
  rw [hx7] at e7
  obtain ⟨base, q7, _, w7⟩ := DataW.trod_int Try.underlying2 e7
  simp [Value.cells, z2] at q7
  subst q0 q1 q2 q3 q4 q5 q6 q7
  exact ⟨td, tl, ts, rd, rl, rs, f, base, rfl, w6⟩

/-! ### THE ROW's STEP: WRITTEN OUT: LEAVE IT -/
set_option maxRecDepth 100000 in
theorem lifted (os : Os) (started : os.Started) (H : Type) (enc : TypeId × Value → H) :
    ReturnsInHanded {} Try.checked os 4 .any (Rows.fnChargeMonotoneSpec.pre6 enc Try.prog Try.f4 Rows.fnChargeMonotoneRow.domain false) (Rows.fnChargeMonotoneSpec.post enc Try.prog Try.f4 false true false false) := by
  refine returnsInHanded_of_change (C := Try.checked) own started (by kernel_rfl) Try.func4
    (ChangeSpec.witness6 (enc := enc) (C := Try.checked) false ⟨#[], #[.agg #[.int .i64 0, .int .u64 0, .int .u8 0, .int .i64 0, .int .u64 0, .int .u8 0, .int .i64 0, .int .i64 0], .int .i64 0, .int .i64 0, .int .i64 0, .int .i64 0, .int .i64 0], []⟩ 8 (by kernel_rfl) (by kernel_rfl) (by kernel_rfl) (by kernel_rfl)) ?_
  intro W base args ds gs before hval0 hW hcnd _
  have hval : ∀ (j : Nat) t v, Try.f4.params[j]? = some t → args[j]? = some v → Value.okWide Try.prog W .any base t v := hval0
  have hW' := hW
  obtain ⟨p, q, hA0, hV, rfl, hfz, hnd⟩ := hW
  have hA : DataW.TrodAll enc Try.prog W 0 (fun _ => true) true Try.f4.params.toList args.toList ds p := hA0
  rw [Try.params4] at hA hval
  obtain ⟨v0, vs0, d0, ds0, p0, q0, hargs, rfl, rfl, h0, r0⟩ := trodAll_cons hA
  obtain ⟨v1, vs1, d1, ds1, p1, q1, rfl, rfl, rfl, h1, r1⟩ := trodAll_cons r0
  obtain ⟨v2, vs2, d2, ds2, p2, q2, rfl, rfl, rfl, h2, r2⟩ := trodAll_cons r1
  obtain ⟨v3, vs3, d3, ds3, p3, q3, rfl, rfl, rfl, h3, r3⟩ := trodAll_cons r2
  obtain ⟨v4, vs4, d4, ds4, p4, q4, rfl, rfl, rfl, h4, r4⟩ := trodAll_cons r3
  obtain ⟨v5, vs5, d5, ds5, p5, q5, rfl, rfl, rfl, h5, r5⟩ := trodAll_cons r4
  obtain ⟨rfl, rfl, rfl⟩ := trodAll_nil r5
  obtain rfl : args = #[v0, v1, v2, v3, v4, v5] := by cases args; simp_all
  obtain ⟨rfl, rfl⟩ := trodVars_none hV
  obtain ⟨td, tl, ts, rd, rl, rs, f, base, hv0, wf0⟩ := rate_open (hval 0 24 v0 rfl rfl) h0
  subst hv0
  have k0 := h0
  have lt0 : ∀ x ∈ p0, x.block < W.heap.size := by obtain ⟨m, hm⟩ := k0; exact DataW.trod_lt m _ _ _ hm
  obtain ⟨a1, rfl, rfl, rfl, w1⟩ := open_int Try.underlying2 (hval 1 2 v1 rfl rfl) h1
  obtain ⟨a2, rfl, rfl, rfl, w2⟩ := open_int Try.underlying2 (hval 2 2 v2 rfl rfl) h2
  obtain ⟨a3, rfl, rfl, rfl, w3⟩ := open_int Try.underlying2 (hval 3 2 v3 rfl rfl) h3
  obtain ⟨a4, rfl, rfl, rfl, w4⟩ := open_int Try.underlying2 (hval 4 2 v4 rfl rfl) h4
  obtain ⟨a5, rfl, rfl, rfl, w5⟩ := open_int Try.underlying2 (hval 5 2 v5 rfl rfl) h5
  clear hA0 hval0
  refine (mono_any td tl ts rd rl rs f base a1 a2 a3 a4 a5 W wf0).mono fun e W' ⟨he, bel⟩ => ?_
  subst he
  exact ⟨_, rfl, _, _, _, [], _, [], hW', trodAll_mk1 (shut_bool Try.underlying4 _), (trodAll_cons_mk (Below.trod laidOut (by kernel_rfl) (of_decide_eq_true (by kernel_rfl)) k0 bel lt0) (trodAll_cons_mk (shut_int Try.underlying2 w1) (trodAll_cons_mk (shut_int Try.underlying2 w2) (trodAll_cons_mk (shut_int Try.underlying2 w3) (trodAll_cons_mk (shut_int Try.underlying2 w4) (trodAll_cons_mk (shut_int Try.underlying2 w5) trodAll_mk0)))))), rfl, bel.frame _, fun h => by cases h⟩

theorem over : Rows.fnChargeMonotoneRow.holds Try.pinned (OpenSpec.ofChange Rows.fnChargeMonotoneSpec) :=
  OpenClaim.holds_of_wide 4 Try.f4 rfl rfl rfl rfl rfl rfl rfl ⟨rfl, rfl, rfl, rfl, rfl⟩ rfl rfl rfl rfl rfl (by kernel_rfl) Try.func4 (by kernel_rfl)
    (of_decide_eq_true (by kernel_rfl)) (by unfold Func.isWrapper; first | (rw [if_pos (by decide +kernel)]; kernel_rfl) | (rw [if_neg (by decide +kernel)]; exact ⟨rfl, rfl⟩))
    (fun os started H enc _ => lifted os started H enc)

/-- ████ THE STATEMENT ████ -/
theorem proved : Rows.FnChargeMonotoneSaid := over
#print axioms proved
end Go.Proofs.Qxb6601269a.fnChargeMonotone
