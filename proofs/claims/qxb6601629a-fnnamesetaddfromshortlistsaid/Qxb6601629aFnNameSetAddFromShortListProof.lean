import Derived.Test.Qxb6601629aRows
import Derived.Test.Qxb6601629aShortWalk
import Derived.WalkKit
import Derived.ProofKit
import Derived.OpenShut
import Derived.ShutString
import Derived.ChangeOld
import Derived.Below
namespace Go.Proofs.Qxb6601629a.fnNameSetAddFromShortList
open Go.ChangeShapes Go.WideShapes Go.ChangeAt Go.RowKit
open Go.ChangeMaps (open_string shut_string)
set_option linter.unusedVariables false

theorem own : ownKnob Try.prog.godebug = none := by kernel_rfl
theorem laidOut : laidOutB Try.prog = true := by kernel_rfl

theorem okWide_array16 {w : World} {r : Reach} {base : Nat} {v : Value} (h : Value.okWide Try.prog w r base 31 v) : ∃ cs, v = .agg cs ∧ cs.size = 16 := by
  simp only [Value.okWide, Try.underlying31] at h
  obtain ⟨cs, h1, h2, _⟩ := h
  exact ⟨cs, h1, h2.trans (by kernel_rfl)⟩

theorem few_open {H : Type} {enc : TypeId × Value → H} {W : World} {fuel : Nat} {F : List Value} {x : DataW H × List MemPlace} (hf : DataW.trod enc Try.prog W 0 (fun _ => true) true fuel 31 F = some x) :
    ∃ (A : Nat → Option Addr) (L C : Nat → Nat) (Z : Nat → List Int), ∀ r, r < 16 → F[r]? = some (.slice (A r) (L r) (C r)) ∧ IsRow .u8 W (A r) (L r) (C r) (Z r) := by
  obtain ⟨xs, m, _, _, hlen, hxs, hel⟩ := DataW.trod_array Try.underlying31 hf
  rw [show Try.prog.cellsOf 31 = 16 by kernel_rfl] at hlen
  rw [show Try.prog.cellsOf 22 = 1 by kernel_rfl] at hel
  obtain ⟨Q, hQ⟩ := Go.Deep.choose_lt (n := 16) (α := Option Addr × Nat × Nat × List Int) (p := fun r y => F[r]? = some (.slice y.1 y.2.1 y.2.2.1) ∧ IsRow .u8 W y.1 y.2.1 y.2.2.1 y.2.2.2) (fun r hr => by
    have h := hel r hr
    have hr' : r < F.length := by omega
    rw [Nat.mul_one, List.drop_eq_getElem_cons hr', List.take_succ_cons, List.take_zero, List.getElem?_eq_getElem (by omega)] at h
    rcases open_ints Try.underlying22 Try.underlying5 (by kernel_rfl) h with ⟨hcs, _⟩ | ⟨x, l, c, zs, hcs, _, hl, hm, hz, _, hcell, hwz⟩
    · have e : F[r] = .slice none 0 0 := by simpa using hcs
      exact ⟨(none, 0, 0, []), by rw [List.getElem?_eq_getElem hr', e], .inl ⟨rfl, rfl, rfl, rfl⟩⟩
    · have e : F[r] = .slice (some x) l c := by simpa using hcs
      exact ⟨(some x, l, c, zs), by rw [List.getElem?_eq_getElem hr', e], .inr ⟨_, rfl, hl, hm, by simpa using hz, hcell, hwz⟩⟩)
  exact ⟨fun r => (Q r).1, fun r => (Q r).2.1, fun r => (Q r).2.2.1, fun r => (Q r).2.2.2, hQ⟩

/-! ### THE ROW's STEP: WRITTEN OUT: LEAVE IT -/
set_option maxRecDepth 100000 in
theorem lifted (os : Os) (started : os.Started) (H : Type) (enc : TypeId × Value → H) :
    ReturnsInHanded {} Try.checked os 5 .any (Rows.fnNameSetAddFromShortListSpec.pre6 enc Try.prog Try.f5 Rows.fnNameSetAddFromShortListRow.domain false) (Rows.fnNameSetAddFromShortListSpec.post enc Try.prog Try.f5 false true false false) := by
  refine returnsInHanded_of_change (C := Try.checked) own started (by kernel_rfl) Try.func5
    (ChangeSpec.witness6 (enc := enc) (C := Try.checked) false ⟨#[], #[.agg #[.slice none 0 0, .slice none 0 0, .slice none 0 0, .slice none 0 0, .slice none 0 0, .slice none 0 0, .slice none 0 0, .slice none 0 0, .slice none 0 0, .slice none 0 0, .slice none 0 0, .slice none 0 0, .slice none 0 0, .slice none 0 0, .slice none 0 0, .slice none 0 0], .int .i64 0, .slice none 0 0], []⟩ 8 (by kernel_rfl) (by kernel_rfl) (by kernel_rfl) (by kernel_rfl)) ?_
  intro W base args ds gs before hval0 hW hcnd _
  have hval : ∀ (j : Nat) t v, Try.f5.params[j]? = some t → args[j]? = some v → Value.okWide Try.prog W .any base t v := hval0
  have hW' := hW
  obtain ⟨p, q, hA0, hV, rfl, hfz, hnd⟩ := hW
  have hA : DataW.TrodAll enc Try.prog W 0 (fun _ => true) true Try.f5.params.toList args.toList ds p := hA0
  rw [Try.params5] at hA hval
  obtain ⟨v0, vs0, d0, ds0, p0, q0, hargs, rfl, rfl, h0, r0⟩ := trodAll_cons hA
  obtain ⟨v1, vs1, d1, ds1, p1, q1, rfl, rfl, rfl, h1, r1⟩ := trodAll_cons r0
  obtain ⟨v2, vs2, d2, ds2, p2, q2, rfl, rfl, rfl, h2, r2⟩ := trodAll_cons r1
  obtain ⟨rfl, rfl, rfl⟩ := trodAll_nil r2
  obtain rfl : args = #[v0, v1, v2] := by cases args; simp_all
  obtain ⟨rfl, rfl⟩ := trodVars_none hV
  obtain ⟨cs, hcs, hsz⟩ := okWide_array16 (hval 0 31 v0 rfl rfl)
  have k0 := h0
  have lt0 : ∀ x ∈ p0, x.block < W.heap.size := by obtain ⟨m, hm⟩ := k0; exact DataW.trod_lt m _ _ _ hm
  obtain ⟨F, rfl, hF⟩ : ∃ F : List Value, v0 = .agg F.toArray ∧ F.length = 16 := ⟨cs.toList, by rw [hcs], by simpa using hsz⟩
  obtain ⟨A, L, C, Z, w0⟩ : ∃ (A : Nat → Option Addr) (L C : Nat → Nat) (Z : Nat → List Int), ∀ r, r < 16 → F[r]? = some (.slice (A r) (L r) (C r)) ∧ IsRow .u8 W (A r) (L r) (C r) (Z r) := by
    obtain ⟨fuel, hf⟩ := h0
    exact few_open (by simpa [Value.cells] using hf)
  have k1 := h1
  obtain ⟨n1, rfl, rfl, rfl, w1⟩ := open_int Try.underlying3 (hval 1 3 v1 rfl rfl) h1
  obtain ⟨a2, len2, cap2, rfl⟩ := okWide_slice Try.underlying22 (hval 2 22 v2 rfl rfl)
  have k2 := h2
  have lt2 : ∀ x ∈ p2, x.block < W.heap.size := by obtain ⟨m, hm⟩ := k2; exact DataW.trod_lt m _ _ _ hm
  obtain ⟨z2, w2⟩ : ∃ zs, IsRow .u8 W a2 len2 cap2 zs := by
    obtain ⟨fuel, hf⟩ := h2
    rcases open_ints Try.underlying22 Try.underlying5 (by kernel_rfl) hf with ⟨hcs, _⟩ | ⟨x, l, c, zs, hcs, _, hl, hm, hz, _, hcell, hwz⟩
    · simp [Value.cells] at hcs
      obtain ⟨rfl, rfl, rfl⟩ := hcs
      exact ⟨[], .inl ⟨rfl, rfl, rfl, rfl⟩⟩
    · simp [Value.cells] at hcs
      obtain ⟨rfl, rfl, rfl⟩ := hcs
      exact ⟨zs, .inr ⟨_, rfl, hl, hm, by simpa using hz, hcell, hwz⟩⟩
  clear hA0 hval0
  refine (short_any F n1 a2 len2 cap2 z2 A L C Z W hF w0 w2 w2.le (fun r hr => (w0 r hr).2.le)).mono fun e W' ⟨he, bel⟩ => ?_
  subst he
  exact ⟨_, rfl, _, _, _, [], _, [], hW', trodAll_mk1 (shut_bool Try.underlying4 _), (trodAll_cons_mk (Below.trod laidOut (by kernel_rfl) (of_decide_eq_true (by kernel_rfl)) k0 bel lt0) (trodAll_cons_mk (shut_int Try.underlying3 w1) (trodAll_cons_mk (Below.trod laidOut (by kernel_rfl) (of_decide_eq_true (by kernel_rfl)) k2 bel lt2) trodAll_mk0))), rfl, bel.frame _, fun h => by cases h⟩

theorem over : Rows.fnNameSetAddFromShortListRow.holds Try.pinned (OpenSpec.ofChange Rows.fnNameSetAddFromShortListSpec) :=
  OpenClaim.holds_of_wide 5 Try.f5 rfl rfl rfl rfl rfl rfl rfl ⟨rfl, rfl, rfl, rfl, rfl⟩ rfl rfl rfl rfl rfl (by kernel_rfl) Try.func5 (by kernel_rfl)
    (of_decide_eq_true (by kernel_rfl)) (by unfold Func.isWrapper; first | (rw [if_pos (by decide +kernel)]; kernel_rfl) | (rw [if_neg (by decide +kernel)]; exact ⟨rfl, rfl⟩))
    (fun os started H enc _ => lifted os started H enc)

/-- ████ THE STATEMENT ████ -/
theorem proved : Rows.FnNameSetAddFromShortListSaid := over
#print axioms proved
end Go.Proofs.Qxb6601629a.fnNameSetAddFromShortList
