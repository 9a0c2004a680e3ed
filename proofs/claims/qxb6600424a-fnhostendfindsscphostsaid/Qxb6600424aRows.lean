/-
  No cell of these rows narrows 'for every input' (looked for: loops, veiled, ifaces, maps, wideKeys, modest, calm, conditions, laid).
  DERIVED. THE GIVEN ROWS OF THIS SEAT. 3 by the template 'for every input the law returns true; each argument reads behind the call as it read before'; 0 by the template 'total and deterministic' (their statements: Qxb6600424aTotals.lean).
  GIVEN WITH THE SEED: the statements are not yours to turn. If you find one false, say at which input.
  Laid BY PROGRAM, IN A SANDBOX (cutbox-rows.mjs): the forced cells as the released guide's own fill.sh prints them over the translation 43321b55cc3b7055… (all of the seat's roots in one cut). By AI agents, Wed Nov 11 2026. No macro, syntax, notation, axiom, sorry.
-/
import Derived.Test.Qxb6600424aChecked
import GoSem.Claim
import GoSem.ClaimJoined
import GoSem.ClaimMapViews
import Derived.JoinedTies
import Derived.KernelRfl
namespace Go.Proofs.Qxb6600424a
/- THE CELL 'sum', in the pinned program and in every row, IS THE sha256 OF THE DUMP (.gsa) THAT Qxb6600424aProg.lean LOADS. Nothing in Lean hashes anything: it is a label: what it is worth is what the hold of that sum in a sandbox is worth. -/
noncomputable def Try.pinned : Pinned := { name := "qxb6600424a", sum := "43321b55cc3b7055c088cf2e559e5c18e61042a9173dcc02e6658937a2608343", checked := Try.checked }
namespace Rows
def none {H : Type} : Left H := { results := [], args := [] }

/-- 'zzlaws_internal_config_b1.FnHostEndMatchesBracketModel': WHATEVER THE INPUT: true; the input reads as it did. -/
def fnHostEndMatchesBracketModelSpec : ChangeSpec := { name := "fnHostEndMatchesBracketModel", fn := fun _ => fun
  | [d] => { results := [.lit (.bool true)], args := [d] }
  | _ => none }
def fnHostEndMatchesBracketModelRow : OpenClaim := { program := "qxb6600424a", sum := "43321b55cc3b7055c088cf2e559e5c18e61042a9173dcc02e6658937a2608343", func := "example.com/holdfast/holdfast/zzlaws_internal_config_b1.FnHostEndMatchesBracketModel", spec := "fnHostEndMatchesBracketModel", apart := false }
def FnHostEndMatchesBracketModelSaid : Prop := fnHostEndMatchesBracketModelRow.holds Try.pinned (OpenSpec.ofChange fnHostEndMatchesBracketModelSpec)

/-- ITS FALSE NEIGHBOUR: 'it returns false'. Refute it at one input. -/
def fnHostEndMatchesBracketModelWrong : ChangeSpec := { name := "fnHostEndMatchesBracketModel", fn := fun _ => fun
  | [d] => { results := [.lit (.bool false)], args := [d] }
  | _ => none }
def FnHostEndMatchesBracketModelWrongFalsely : Prop := fnHostEndMatchesBracketModelRow.holds Try.pinned (OpenSpec.ofChange fnHostEndMatchesBracketModelWrong)

/-- 'zzlaws_internal_config_b1.FnHostEndDecidedByPrefix': WHATEVER THE INPUT: true; the input reads as it did. -/
def fnHostEndDecidedByPrefixSpec : ChangeSpec := { name := "fnHostEndDecidedByPrefix", fn := fun _ => fun
  | [d1, d2] => { results := [.lit (.bool true)], args := [d1, d2] }
  | _ => none }
def fnHostEndDecidedByPrefixRow : OpenClaim := { program := "qxb6600424a", sum := "43321b55cc3b7055c088cf2e559e5c18e61042a9173dcc02e6658937a2608343", func := "example.com/holdfast/holdfast/zzlaws_internal_config_b1.FnHostEndDecidedByPrefix", spec := "fnHostEndDecidedByPrefix", apart := false }
def FnHostEndDecidedByPrefixSaid : Prop := fnHostEndDecidedByPrefixRow.holds Try.pinned (OpenSpec.ofChange fnHostEndDecidedByPrefixSpec)

/-- ITS FALSE NEIGHBOUR: 'it returns false'. Refute it at one input. -/
def fnHostEndDecidedByPrefixWrong : ChangeSpec := { name := "fnHostEndDecidedByPrefix", fn := fun _ => fun
  | [d1, d2] => { results := [.lit (.bool false)], args := [d1, d2] }
  | _ => none }
def FnHostEndDecidedByPrefixWrongFalsely : Prop := fnHostEndDecidedByPrefixRow.holds Try.pinned (OpenSpec.ofChange fnHostEndDecidedByPrefixWrong)

/-- 'zzlaws_internal_config_b1.FnHostEndFindsScpHost': WHATEVER THE INPUT: true; the input reads as it did. -/
def fnHostEndFindsScpHostSpec : ChangeSpec := { name := "fnHostEndFindsScpHost", fn := fun _ => fun
  | [d1, d2, d3, d4, d5] => { results := [.lit (.bool true)], args := [d1, d2, d3, d4, d5] }
  | _ => none }
def fnHostEndFindsScpHostRow : OpenClaim := { program := "qxb6600424a", sum := "43321b55cc3b7055c088cf2e559e5c18e61042a9173dcc02e6658937a2608343", func := "example.com/holdfast/holdfast/zzlaws_internal_config_b1.FnHostEndFindsScpHost", spec := "fnHostEndFindsScpHost", apart := false }
def FnHostEndFindsScpHostSaid : Prop := fnHostEndFindsScpHostRow.holds Try.pinned (OpenSpec.ofChange fnHostEndFindsScpHostSpec)

/-- ITS FALSE NEIGHBOUR: 'it returns false'. Refute it at one input. -/
def fnHostEndFindsScpHostWrong : ChangeSpec := { name := "fnHostEndFindsScpHost", fn := fun _ => fun
  | [d1, d2, d3, d4, d5] => { results := [.lit (.bool false)], args := [d1, d2, d3, d4, d5] }
  | _ => none }
def FnHostEndFindsScpHostWrongFalsely : Prop := fnHostEndFindsScpHostRow.holds Try.pinned (OpenSpec.ofChange fnHostEndFindsScpHostWrong)

end Rows
end Go.Proofs.Qxb6600424a
