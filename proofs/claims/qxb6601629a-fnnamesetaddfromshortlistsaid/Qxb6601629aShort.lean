import Derived.Test.Qxb6601629aNames
import Derived.Deep.Slices
namespace Go.Proofs.Qxb6601629a
open Go.ChangeShapes Go.WideShapes Go.ChangeAt Go.RowKit
set_option linter.unusedVariables false

set_option maxHeartbeats 400000 in
theorem bytes16 (F : List Value) (n : Int) (a : Option Addr) (l c : Nat) (L : Nat → Nat) (w : World) (hF : F.length = 16) (hl : l ≤ maxLen)
    (hFr : ∀ r, r < 16 → ∃ x c, F[r]? = some (.slice x (L r) c)) :
    Calls Try.prog 16 #[.agg F.toArray, .int .i64 n, .slice a l c] w fun e w' => IsBool e ∧ Below w.heap.size w w' := by
  have HF : Hid (F.length = 16) := hF
  have HFR : Hid (∀ r, r < 16 → ∃ x c, F[r]? = some (.slice x (L r) c)) := hFr
  unfold maxLen at hl
  clear hF hFr
  go_enter Try.func16, Try.ntmps16
  go_wp2_with fail
  have hW : Below w.heap.size w (w.alloc (.cells F.toArray 31)) := (Below.refl _ _).alloc (Nat.le_refl _) _
  have HWc : Hid (∀ r v, F[r]? = some v → (w.alloc (.cells F.toArray 31)).cell? ⟨w.heap.size, r, none⟩ = some v) := fun r v hv => own_cell (blk_new _ _) hv
  generalize w.alloc (.cells F.toArray 31) = W at hW HWc ⊢
  go_loop [7, 8] (fun t i => ∃ (k : Nat) (m : Int), k ≤ 16 ∧ i = .int .i64 k ∧ t = .int .i64 m ∧ 0 ≤ m ∧ m ≤ 1048576) (fun _ i => 16 - (intOf i).toNat)
  case atStart => exact ⟨0, 0, Nat.zero_le _, rfl, rfl, by omega, by omega⟩
  case round =>
    obtain ⟨k, m, hk, rfl, rfl, hm0, hm1⟩ := hrel
    by_cases hlt : k < 16
    · have hlti : (k : Int) < 16 := by omega
      obtain ⟨x, c', hx⟩ := HFR.out k hlt
      have hck := HWc.out k _ hx
      clear hx
      by_cases hL : (L k : Int) ≤ 1048576
      · by_cases hs : m + (L k : Int) ≤ 1048576
        · go_wp2
          go_round
          case rel => exact ⟨k + 1, _, by omega, by go_num, rfl, by omega, by omega⟩
          case measure => simp [intOf]; omega
        · go_wp2
          go_ret
          exact ⟨by first | exact Or.inl rfl | exact Or.inr rfl, hW⟩
      · go_wp2
        go_ret
        exact ⟨by first | exact Or.inl rfl | exact Or.inr rfl, hW⟩
    · by_cases hL : (l : Int) ≤ 1048576
      · by_cases hs : m + (l : Int) ≤ 1048576
        · go_wp2
          go_ret
          exact ⟨by first | exact Or.inl rfl | exact Or.inr rfl, hW⟩
        · go_wp2
          go_ret
          exact ⟨by first | exact Or.inl rfl | exact Or.inr rfl, hW⟩
      · go_wp2
        go_ret
        exact ⟨by first | exact Or.inl rfl | exact Or.inr rfl, hW⟩

/-- The copy of the short list: sixteen nil slices in a new block. -/
theorem Cp.start16 (w : World) (L : Nat → Nat) (Z : Nat → List Int) : Cp w (w.alloc (.cells nil16.toArray 31)) w.heap.size 16 0 L Z where
  below := (Below.refl _ _).alloc (Nat.le_refl _) _
  lt := by simp
  cells := fun r hr => ⟨_, own_cell (blk_new _ _) (List.getElem?_eq_getElem (show r < nil16.length from hr))⟩
  free := frozen_none (blk_new _ _)
  done := fun r hr => absurd hr (by omega)

/-- The first N names. -/
def taken (Y : Nat → List Int) (N : Nat) : List (List Int) := (List.range N).map Y

theorem mem_taken (Y : Nat → List Int) (N : Nat) (z : List Int) : z ∈ taken Y N ↔ ∃ r, r < N ∧ Y r = z := by
  unfold taken; simp

/-- A set made from a short list of N names. -/
theorem St.short {w : World} {b N : Nat} {G : List Value} {As : Nat → Option Addr} {L : Nat → Nat} {Y : Nat → List Int} (hb : w.heap[b]? = some (.cells (G ++ [Value.int .i64 N, Value.map none]).toArray 44 (0, 0)))
    (hG : G.length = 16) (hN : N ≤ 16) (hGr : ∀ r, r < 16 → G[r]? = some (.slice (As r) (L r) (L r))) (hY : ∀ r, r < 16 → Byt (Y r) ∧ (Y r).length = L r) (hO : ∀ r, r < 16 → OwnB w b (As r) (Y r)) : St w b (taken Y N) 16 := by
  have hl : (taken Y N).length = N := by simp [taken]
  refine ⟨fun y hy => ?_, G, N, none, hG, hb, Or.inl ⟨rfl, by rw [hl], by omega, fun i z hz => ?_⟩⟩
  · obtain ⟨r, hr, rfl⟩ := (mem_taken Y N y).1 hy
    exact (hY r (by omega)).1
  · have hi : i < N := by have := (List.getElem?_eq_some_iff.1 hz).1; omega
    have : z = Y i := by
      unfold taken at hz
      rw [List.getElem?_map, List.getElem?_range hi] at hz
      exact (Option.some.inj hz).symm
    subst this
    exact ⟨As i, by rw [(hY i (by omega)).2]; exact hGr i (by omega), hO i (by omega)⟩

theorem IsRow.le {w : World} {a : Option Addr} {len cap : Nat} {zs : List Int} (h : IsRow .u8 w a len cap zs) : len ≤ maxLen := by
  rcases h with ⟨_, h1, _, _⟩ | ⟨x, h0, h1, h2, _⟩
  · rw [h1]; exact Nat.zero_le _
  · exact Nat.le_trans h1 h2

end Go.Proofs.Qxb6601629a
