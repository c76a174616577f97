/-
  No cell of these rows narrows 'for every input' (looked for: loops, veiled, ifaces, maps, wideKeys, modest, calm, conditions, laid).
  DERIVED. THE GIVEN ROWS OF THIS SEAT. 2 by the template 'for every input the law returns true; each argument reads behind the call as it read before'; 0 by the template 'total and deterministic' (their statements: Qxb6602680aTotals.lean).
  GIVEN WITH THE SEED: the statements are not yours to turn. If you find one false, say at which input.
  Laid BY PROGRAM, IN A SANDBOX (cutbox-rows.mjs): the forced cells as the released guide's own fill.sh prints them over the translation 92579513e25817b8… (all of the seat's roots in one cut). By AI agents, Wed Nov 11 2026. No macro, syntax, notation, axiom, sorry.
-/
import Derived.Test.Qxb6602680aChecked
import GoSem.Claim
import GoSem.ClaimJoined
import GoSem.ClaimMapViews
import Derived.JoinedTies
import Derived.KernelRfl
namespace Go.Proofs.Qxb6602680a
/- THE CELL 'sum', in the pinned program and in every row, IS THE sha256 OF THE DUMP (.gsa) THAT Qxb6602680aProg.lean LOADS. Nothing in Lean hashes anything: it is a label: what it is worth is what the hold of that sum in a sandbox is worth. -/
noncomputable def Try.pinned : Pinned := { name := "qxb6602680a", sum := "92579513e25817b8b5c4c4674d5b4ceeb67307ceca59eaf44a0eabd73ca79001", checked := Try.checked }
namespace Rows
def none {H : Type} : Left H := { results := [], args := [] }

/-- 'zzlaws_internal_access_b1.FnHeaderNameHasPrefixBlindToCaseAndTail': WHATEVER THE INPUT: true; the input reads as it did. -/
def fnHeaderNameHasPrefixBlindToCaseAndTailSpec : ChangeSpec := { name := "fnHeaderNameHasPrefixBlindToCaseAndTail", fn := fun _ => fun
  | [d1, d2, d3] => { results := [.lit (.bool true)], args := [d1, d2, d3] }
  | _ => none }
def fnHeaderNameHasPrefixBlindToCaseAndTailRow : OpenClaim := { program := "qxb6602680a", sum := "92579513e25817b8b5c4c4674d5b4ceeb67307ceca59eaf44a0eabd73ca79001", func := "example.com/gatewarden/gatewarden/zzlaws_internal_access_b1.FnHeaderNameHasPrefixBlindToCaseAndTail", spec := "fnHeaderNameHasPrefixBlindToCaseAndTail", apart := false }
def FnHeaderNameHasPrefixBlindToCaseAndTailSaid : Prop := fnHeaderNameHasPrefixBlindToCaseAndTailRow.holds Try.pinned (OpenSpec.ofChange fnHeaderNameHasPrefixBlindToCaseAndTailSpec)

/-- ITS FALSE NEIGHBOUR: 'it returns false'. Refute it at one input. -/
def fnHeaderNameHasPrefixBlindToCaseAndTailWrong : ChangeSpec := { name := "fnHeaderNameHasPrefixBlindToCaseAndTail", fn := fun _ => fun
  | [d1, d2, d3] => { results := [.lit (.bool false)], args := [d1, d2, d3] }
  | _ => none }
def FnHeaderNameHasPrefixBlindToCaseAndTailWrongFalsely : Prop := fnHeaderNameHasPrefixBlindToCaseAndTailRow.holds Try.pinned (OpenSpec.ofChange fnHeaderNameHasPrefixBlindToCaseAndTailWrong)

/-- 'zzlaws_internal_access_b1.FnHeaderNameHasPrefixAcceptsOwnFoldedHead': WHATEVER THE INPUT: true; the input reads as it did. -/
def fnHeaderNameHasPrefixAcceptsOwnFoldedHeadSpec : ChangeSpec := { name := "fnHeaderNameHasPrefixAcceptsOwnFoldedHead", fn := fun _ => fun
  | [d1, d2] => { results := [.lit (.bool true)], args := [d1, d2] }
  | _ => none }
def fnHeaderNameHasPrefixAcceptsOwnFoldedHeadRow : OpenClaim := { program := "qxb6602680a", sum := "92579513e25817b8b5c4c4674d5b4ceeb67307ceca59eaf44a0eabd73ca79001", func := "example.com/gatewarden/gatewarden/zzlaws_internal_access_b1.FnHeaderNameHasPrefixAcceptsOwnFoldedHead", spec := "fnHeaderNameHasPrefixAcceptsOwnFoldedHead", apart := false }
def FnHeaderNameHasPrefixAcceptsOwnFoldedHeadSaid : Prop := fnHeaderNameHasPrefixAcceptsOwnFoldedHeadRow.holds Try.pinned (OpenSpec.ofChange fnHeaderNameHasPrefixAcceptsOwnFoldedHeadSpec)

/-- ITS FALSE NEIGHBOUR: 'it returns false'. Refute it at one input. -/
def fnHeaderNameHasPrefixAcceptsOwnFoldedHeadWrong : ChangeSpec := { name := "fnHeaderNameHasPrefixAcceptsOwnFoldedHead", fn := fun _ => fun
  | [d1, d2] => { results := [.lit (.bool false)], args := [d1, d2] }
  | _ => none }
def FnHeaderNameHasPrefixAcceptsOwnFoldedHeadWrongFalsely : Prop := fnHeaderNameHasPrefixAcceptsOwnFoldedHeadRow.holds Try.pinned (OpenSpec.ofChange fnHeaderNameHasPrefixAcceptsOwnFoldedHeadWrong)

end Rows
end Go.Proofs.Qxb6602680a
