import Derived.Test.Qxb6601629aBase
namespace Go.Proofs.Qxb6601629a
open Go.ChangeShapes Go.WideShapes Go.ChangeAt Go.RowKit
set_option linter.unusedVariables false

/-- The name that jsonKind gives to a first byte. -/
def kindOf (z : Int) : ByteArray :=
  if (z == 123) = true then { data := #[111, 98, 106, 101, 99, 116] }
  else if (z == 91) = true then { data := #[97, 114, 114, 97, 121] }
  else if (z == 116) = true then { data := #[98, 111, 111, 108] }
  else if (z == 102) = true then { data := #[98, 111, 111, 108] }
  else if (z == 34) = true then { data := #[115, 116, 114, 105, 110, 103] }
  else { data := #[110, 117, 109, 98, 101, 114] }

theorem kind_any (a : Addr) (len cap : Nat) (z : Int) (w : World) (hl : (0 : Int) < (len : Int)) (hc : w.cell? a = some (.int .u8 z)) :
    Calls Try.prog 10 #[.slice (some a) len cap] w fun e w' => e = .returned (.string (kindOf z)) ∧ w' = w := by
  unfold kindOf
  by_cases h1 : (z == 123) = true
  · rw [if_pos h1]
    go_enter Try.func10, Try.ntmps10
    go_wp2
    go_ret
    exact ⟨rfl, rfl⟩
  rw [if_neg h1]
  have h1' : (z == 123) = false := by simpa using h1
  clear h1
  by_cases h2 : (z == 91) = true
  · rw [if_pos h2]
    go_enter Try.func10, Try.ntmps10
    go_wp2
    go_ret
    exact ⟨rfl, rfl⟩
  rw [if_neg h2]
  have h2' : (z == 91) = false := by simpa using h2
  clear h2
  by_cases h3 : (z == 116) = true
  · rw [if_pos h3]
    go_enter Try.func10, Try.ntmps10
    go_wp2
    go_ret
    exact ⟨rfl, rfl⟩
  rw [if_neg h3]
  have h3' : (z == 116) = false := by simpa using h3
  clear h3
  by_cases h4 : (z == 102) = true
  · rw [if_pos h4]
    go_enter Try.func10, Try.ntmps10
    go_wp2
    go_ret
    exact ⟨rfl, rfl⟩
  rw [if_neg h4]
  have h4' : (z == 102) = false := by simpa using h4
  clear h4
  by_cases h5 : (z == 34) = true
  · rw [if_pos h5]
    go_enter Try.func10, Try.ntmps10
    go_wp2
    go_ret
    exact ⟨rfl, rfl⟩
  rw [if_neg h5]
  have h5' : (z == 34) = false := by simpa using h5
  clear h5
  go_enter Try.func10, Try.ntmps10
  go_wp2
  go_ret
  exact ⟨rfl, rfl⟩

theorem isKind_any (z : Int) (w : World) :
    Calls Try.prog 11 #[.string (kindOf z)] w fun e w' => e = .returned (.bool true) ∧ w' = w := by
  unfold kindOf
  repeat' split
  all_goals
    go_enter Try.func11, Try.ntmps11
    go_wp2
    go_ret
    exact ⟨rfl, rfl⟩

theorem zzBytes_any (a0 a1 : Option Addr) (l0 c0 l1 c1 : Nat) (w : World) :
    Calls Try.prog 8 #[.slice a0 l0 c0, .slice a1 l1 c1] w fun e w' => ((e = .returned (.bool true) ∧ l0 + l1 ≤ 1048576) ∨ e = .returned (.bool false)) ∧ w' = w := by
  by_cases h0 : l0 ≤ 1048576
  · by_cases h1 : l1 ≤ 1048576
    · by_cases h2 : l0 + l1 ≤ 1048576
      · go_enter Try.func8, Try.ntmps8
        go_wp2
        go_ret
        exact ⟨Or.inl ⟨rfl, h2⟩, rfl⟩
      · go_enter Try.func8, Try.ntmps8
        go_wp2
        go_ret
        exact ⟨Or.inr rfl, rfl⟩
    · go_enter Try.func8, Try.ntmps8
      go_wp2
      go_ret
      exact ⟨Or.inr rfl, rfl⟩
  · go_enter Try.func8, Try.ntmps8
    go_wp2
    go_ret
    exact ⟨Or.inr rfl, rfl⟩
end Go.Proofs.Qxb6601629a
