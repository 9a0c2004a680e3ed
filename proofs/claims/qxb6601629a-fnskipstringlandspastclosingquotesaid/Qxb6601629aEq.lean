import Derived.Test.Qxb6601629aSet
namespace Go.Proofs.Qxb6601629a
open Go.ChangeShapes Go.WideShapes Go.ChangeAt Go.RowKit
set_option linter.unusedVariables false

theorem eq14_len (a1 a2 : Option Addr) (l1 c1 l2 c2 : Nat) (w : World) (h : l1 ≠ l2) :
    Calls Try.prog 14 #[.slice a1 l1 c1, .slice a2 l2 c2] w fun e w' => e = .returned (.bool false) ∧ ∃ q, w' = w.drewN q := by
  have hb : ((l1 : Int) != (l2 : Int)) = true := by rw [bne_iff_ne]; omega
  go_enter Try.func14, Try.ntmps14
  go_wp2
  go_ret
  exact ⟨rfl, 0, rfl⟩

theorem eq14_zero (a1 a2 : Option Addr) (c1 c2 : Nat) (w : World) :
    Calls Try.prog 14 #[.slice a1 0 c1, .slice a2 0 c2] w fun e w' => e = .returned (.bool true) ∧ ∃ q, w' = w.drewN q := by
  go_enter Try.func14, Try.ntmps14
  go_wp2
  go_loop [5] (fun i => i = .int .i64 0) (fun _ => 0)
  case atStart => rfl
  case round =>
    subst hrel
    go_wp2
    go_ret
    exact ⟨rfl, 0, rfl⟩

set_option maxHeartbeats 400000 in
theorem eq14_loop (g1 g2 : Nat) (z1 z2 : List Int) (l c1 c2 : Nat) (w : World) (h1 : z1.length = l) (h2 : z2.length = l) (hl20 : l ≤ 1048576)
    (r1 : ∀ i, i < l → w.cell? ⟨g1, i, none⟩ = some (.int .u8 (z1.getD i 0))) (r2 : ∀ i, i < l → w.cell? ⟨g2, i, none⟩ = some (.int .u8 (z2.getD i 0))) :
    Calls Try.prog 14 #[.slice (some ⟨g1, 0, none⟩) l c1, .slice (some ⟨g2, 0, none⟩) l c2] w fun e w' => e = .returned (.bool (decide (z1 = z2))) ∧ ∃ q, w' = w.drewN q := by
  have R1 : Hid (∀ i, i < l → w.cell? ⟨g1, i, none⟩ = some (.int .u8 (z1.getD i 0))) := r1
  have R2 : Hid (∀ i, i < l → w.cell? ⟨g2, i, none⟩ = some (.int .u8 (z2.getD i 0))) := r2
  have L1 : Hid (z1.length = l) := h1
  have L2 : Hid (z2.length = l) := h2
  clear r1 r2 h1 h2
  go_enter Try.func14, Try.ntmps14
  go_wp2
  go_loopw [5] (fun i wr => ∃ k : Nat, k ≤ l ∧ i = .int .i64 k ∧ (∀ j, j < k → z1.getD j 0 = z2.getD j 0) ∧ ∃ q, wr = w.drewN q) (fun i _ => l - (intOf i).toNat)
  case atStart => exact ⟨0, Nat.zero_le _, rfl, fun j hj => absurd hj (by omega), 0, rfl⟩
  case round =>
    obtain ⟨k, hk, rfl, hall, q, rfl⟩ := hrel
    have HA : Hid (∀ j, j < k → z1.getD j 0 = z2.getD j 0) := hall
    clear hall
    by_cases hlt : k < l
    · have hc1 := R1.out k hlt
      have hc2 := R2.out k hlt
      obtain ⟨x, hx⟩ : ∃ x, z1.getD k 0 = x := ⟨_, rfl⟩
      obtain ⟨y, hy⟩ : ∃ y, z2.getD k 0 = y := ⟨_, rfl⟩
      rw [hx] at hc1
      rw [hy] at hc2
      have HX : Hid (z1.getD k 0 = x) := hx
      have HY : Hid (z2.getD k 0 = y) := hy
      clear hx hy
      have hlti : (k : Int) < (l : Int) := by omega
      by_cases hxy : x = y
      · have hb : (x != y) = false := by simp [hxy]
        have HQ : Hid (x = y) := hxy
        clear hxy
        go_wp2_with fail
        go_quiet (fail)
        go_wp2
        go_roundw
        case rel =>
          refine ⟨k + 1, by omega, by go_num, fun j hj => ?_, _, rfl⟩
          by_cases e : j = k
          · rw [e, HX.out, HY.out]; exact HQ.out
          · exact HA.out j (by omega)
        case measure => simp [intOf]; omega
      · have hb : (x != y) = true := by rw [bne_iff_ne]; exact hxy
        have HQ : Hid (¬ z1 = z2) := by
          intro e; apply hxy; rw [← HX.out, ← HY.out, e]
        clear hxy
        go_wp2_with fail
        go_quiet (fail)
        go_wp2
        go_ret
        exact ⟨by rw [decide_eq_false HQ.out]; rfl, q + nq, by simp⟩
    · have HQ : Hid (z1 = z2) := by
        apply List.ext_getElem
        · rw [L1.out, L2.out]
        · intro i h1 h2
          have := HA.out i (by have := L1.out; omega)
          simpa [List.getD, List.getElem?_eq_getElem h1, List.getElem?_eq_getElem h2] using this
      go_wp2
      go_ret
      exact ⟨by rw [decide_eq_true HQ.out]; rfl, _, rfl⟩

theorem eq14 (a1 a2 : Option Addr) (z1 z2 : List Int) (l1 c1 l2 c2 B : Nat) (w : World) (h1 : OwnB w B a1 z1) (h2 : OwnB w B a2 z2) (hl1 : z1.length = l1) (hl2 : z2.length = l2) (b1 : z1.length ≤ 1048576) :
    Calls Try.prog 14 #[.slice a1 l1 c1, .slice a2 l2 c2] w fun e w' => e = .returned (.bool (decide (z1 = z2))) ∧ ∃ q, w' = w.drewN q := by
  by_cases hl : l1 = l2
  · subst hl
    by_cases h0 : l1 = 0
    · subst h0
      have e : z1 = z2 := by rw [List.eq_nil_of_length_eq_zero hl1, List.eq_nil_of_length_eq_zero hl2]
      rw [decide_eq_true e]
      exact eq14_zero a1 a2 c1 c2 w
    · rcases h1 with ⟨_, rfl⟩ | ⟨g1, rfl, _, r1⟩
      · exact absurd hl1.symm h0
      · rcases h2 with ⟨_, rfl⟩ | ⟨g2, rfl, _, r2⟩
        · exact absurd hl2.symm h0
        · exact eq14_loop g1 g2 z1 z2 l1 c1 c2 w hl1 hl2 (by omega) (fun i hi => own_cell r1 (by rw [List.getElem?_map, List.getElem?_eq_getElem (by omega)]; simp [List.getD, List.getElem?_eq_getElem (show i < z1.length by omega)]))
            (fun i hi => own_cell r2 (by rw [List.getElem?_map, List.getElem?_eq_getElem (by omega)]; simp [List.getD, List.getElem?_eq_getElem (show i < z2.length by omega)]))
  · have e : ¬ z1 = z2 := fun e => hl (by rw [← hl1, ← hl2, e])
    rw [decide_eq_false e]
    exact eq14_len a1 a2 l1 c1 l2 c2 w hl
end Go.Proofs.Qxb6601629a
