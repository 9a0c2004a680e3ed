import Derived.Test.Qxb6600424aRows
import Derived.WalkKit
import Derived.ProofKit
import Derived.OpenShut
import Derived.ShutString
import Derived.WalkSpells
import Derived.WalkLawsBesides
import Derived.Laws.RangeAny
namespace Go.Proofs.Qxb6600424a
open Go.ChangeShapes Go.WideShapes Go.ChangeAt Go.RowKit
set_option linter.unusedVariables false

/-! ### The plain model, without Go -/
/-- Inside brackets at place j? -/
def br (L : List UInt8) : Nat → Bool
  | 0 => false
  | j + 1 => if L[j]? = some 91 then true else if L[j]? = some 93 then false else br L j

/-- A colon or a slash outside brackets. -/
def Stop (L : List UInt8) (j : Nat) : Prop := (L[j]? = some 58 ∨ L[j]? = some 47) ∧ br L j = false

/-- The answer: the first such place decides. -/
def Res (L : List UInt8) (r : Int) : Prop :=
  (∃ j : Nat, Stop L j ∧ (∀ i, i < j → ¬ Stop L i) ∧ r = if L[j]? = some 58 then (j : Int) else -1) ∨ ((∀ i, ¬ Stop L i) ∧ r = -1)

theorem Res.unique {L : List UInt8} {r r' : Int} (h : Res L r) (h' : Res L r') : r = r' := by
  rcases h with ⟨j, h1, h2, h3⟩ | ⟨h1, h2⟩
  · rcases h' with ⟨j', h1', h2', h3'⟩ | ⟨h1', h2'⟩
    · have : j = j' := by
        rcases Nat.lt_trichotomy j j' with h | h | h
        · exact absurd h1 (h2' j h)
        · exact h
        · exact absurd h1' (h2 j' h)
      subst this; rw [h3, h3']
    · exact absurd h1 (h1' j)
  · rcases h' with ⟨j', h1', h2', h3'⟩ | ⟨h1', h2'⟩
    · exact absurd h1' (h1 j')
    · rw [h2, h2']

theorem br_open {L : List UInt8} {j : Nat} (h : L[j]? = some 91) : br L (j + 1) = true := by
  show (if L[j]? = some 91 then true else if L[j]? = some 93 then false else br L j) = _
  rw [if_pos h]
theorem br_shut {L : List UInt8} {j : Nat} (h : L[j]? = some 93) : br L (j + 1) = false := by
  show (if L[j]? = some 91 then true else if L[j]? = some 93 then false else br L j) = _
  rw [if_neg (by rw [h]; decide), if_pos h]
theorem br_same {L : List UInt8} {j : Nat} {c : UInt8} (h : L[j]? = some c) (h1 : c ≠ 91) (h2 : c ≠ 93) : br L (j + 1) = br L j := by
  show (if L[j]? = some 91 then true else if L[j]? = some 93 then false else br L j) = _
  rw [if_neg (by rw [h]; intro e; exact h1 (Option.some.inj e)), if_neg (by rw [h]; intro e; exact h2 (Option.some.inj e))]
theorem not_stop {L : List UInt8} {j : Nat} {c : UInt8} (h : L[j]? = some c) (h1 : c ≠ 58) (h2 : c ≠ 47) : ¬ Stop L j := by
  rintro ⟨e | e, _⟩
  · rw [h] at e; exact h1 (Option.some.inj e)
  · rw [h] at e; exact h2 (Option.some.inj e)
theorem not_stop_in {L : List UInt8} {j : Nat} (h : br L j = true) : ¬ Stop L j := by
  rintro ⟨_, e⟩; rw [h] at e; cases e
theorem not_stop_end {L : List UInt8} {j : Nat} (h : L.length ≤ j) : ¬ Stop L j := by
  rintro ⟨e | e, _⟩ <;> (rw [List.getElem?_eq_none h] at e; cases e)

theorem byte_at (s : ByteArray) (i : Nat) (h : i < s.size) : s.data.toList[i]? = some (s[i]'h) := by
  rw [List.getElem?_eq_getElem (by simpa using h)]
  rfl

/-- The bytes that a rune passes behind its first are 128 or more. -/
theorem decode_cont (s : ByteArray) (i k : Nat) (h : i < s.size) (hk : 1 ≤ k) (hw : k < (Utf8.decode s i).2) : i + k < s.size ∧ 128 ≤ (s.get! (i + k)).toNat := by
  unfold Utf8.decode at hw
  simp only [] at hw
  split at hw
  · simp only at hw; omega
  split at hw
  · rename_i h2
    simp only [Bool.and_eq_true, decide_eq_true_eq, beq_iff_eq] at h2
    split at hw
    · simp only at hw
      obtain rfl : k = 1 := by omega
      exact ⟨h2.2.1, by omega⟩
    · simp only at hw; omega
  split at hw
  · rename_i h2
    simp only [Bool.and_eq_true, decide_eq_true_eq, beq_iff_eq] at h2
    split at hw
    · simp only at hw
      have hk2 : k = 1 ∨ k = 2 := by omega
      rcases hk2 with rfl | rfl
      · exact ⟨h2.1.2.1, by omega⟩
      · exact ⟨h2.2.1, by omega⟩
    · simp only at hw; omega
  split at hw
  · rename_i h2
    simp only [Bool.and_eq_true, decide_eq_true_eq, beq_iff_eq] at h2
    split at hw
    · simp only at hw
      have hk3 : k = 1 ∨ k = 2 ∨ k = 3 := by omega
      rcases hk3 with rfl | rfl | rfl
      · exact ⟨h2.1.1.2.1, by omega⟩
      · exact ⟨h2.1.2.1, by omega⟩
      · exact ⟨h2.2.1, by omega⟩
    · simp only at hw; omega
  · simp only at hw; omega
end Go.Proofs.Qxb6600424a
