import Derived.Test.Qxb6601629aSetAdd
namespace Go.Proofs.Qxb6601629a
open Go.ChangeShapes Go.WideShapes Go.ChangeAt Go.RowKit
set_option linter.unusedVariables false

theorem add15 (b : Nat) (S : List (List Int)) (K : Nat) (a : Option Addr) (z : List Int) (l : Nat) (w : World) (hl : z.length = l) (hs : St w b S K) (hK : K < maxLen) (hK17 : 16 ≤ K) (ho : OwnB w b a z) (hz : Byt z) :
    Calls Try.prog 15 #[.pointer (some ⟨b, 0, none⟩), .slice a l l] w fun e w' => e = .returned (.bool (decide (z ∉ S))) ∧ Below b w w' ∧ St w' b (if z ∈ S then S else S ++ [z]) (K + 1) := by
  have HC := add26 b S K a z l w hl hs hK hK17 ho hz
  generalize decide (z ∉ S) = r at HC ⊢
  generalize (if z ∈ S then S else S ++ [z]) = S' at HC ⊢
  have H : Hid (Calls Try.prog 26 #[.pointer (some ⟨b, 0, none⟩), .slice a l l] w fun e w' => e = .returned (.bool r) ∧ Below b w w' ∧ St w' b S' (K + 1)) := HC
  clear HC hs ho hz
  go_enter Try.func15, Try.ntmps15
  go_wp2_with (go_at_call 26; refine H.out.mono ?_; rintro e w' ⟨rfl, h1, h2⟩)
  go_ret
  exact ⟨rfl, h1, h2⟩

theorem make13 (F : List Value) (n : Int) (w : World) (hF : F.length = 16) :
    Calls Try.prog 13 #[.agg F.toArray, .int .i64 n] w fun e w' => ∃ g, e = .returned (.pointer (some ⟨g, 0, none⟩)) ∧ w.heap.size ≤ g ∧ Below w.heap.size w w' ∧ w'.heap[g]? = some (.cells (F ++ [Value.int .i64 n, Value.map none]).toArray 44 (0, 0)) := by
  match F, hF with
  | [f0, f1, f2, f3, f4, f5, f6, f7, f8, f9, f10, f11, f12, f13, f14, f15], _ =>
  go_enter Try.func13, Try.ntmps13
  go_wp2
  go_ret
  refine ⟨w.heap.size + 1, rfl, by omega, ?_, ?_⟩
  · exact ((Below.refl _ _).alloc (Nat.le_refl _) _).alloc (by simp) _
  · have h := blk_new (w.alloc (.cells [f0, f1, f2, f3, f4, f5, f6, f7, f8, f9, f10, f11, f12, f13, f14, f15].toArray 31)) (.cells [f0, f1, f2, f3, f4, f5, f6, f7, f8, f9, f10, f11, f12, f13, f14, f15, Value.int .i64 n, Value.map none].toArray 44)
    have e : (w.alloc (.cells [f0, f1, f2, f3, f4, f5, f6, f7, f8, f9, f10, f11, f12, f13, f14, f15].toArray 31)).heap.size = w.heap.size + 1 := by simp
    rw [e] at h
    exact h
end Go.Proofs.Qxb6601629a
