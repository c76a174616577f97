/-
  No cell of these rows narrows 'for every input' (looked for: loops, veiled, ifaces, maps, wideKeys, modest, calm, conditions, laid).
  DERIVED. THE GIVEN ROWS OF THIS SEAT. 1 by the template 'for every input the law returns true; each argument reads behind the call as it read before'; 0 by the template 'total and deterministic' (their statements: Qxb6602916aTotals.lean).
  GIVEN WITH THE SEED: the statements are not yours to turn. If you find one false, say at which input.
  Laid BY PROGRAM, IN A SANDBOX (cutbox-rows.mjs): the forced cells as the released guide's own fill.sh prints them over the translation ea7a5fe24c733b1c… (all of the seat's roots in one cut). By AI agents, Wed Nov 11 2026. No macro, syntax, notation, axiom, sorry.
-/
import Derived.Test.Qxb6602916aChecked
import GoSem.Claim
import GoSem.ClaimJoined
import GoSem.ClaimMapViews
import Derived.JoinedTies
import Derived.KernelRfl
namespace Go.Proofs.Qxb6602916a
/- THE CELL 'sum', in the pinned program and in every row, IS THE sha256 OF THE DUMP (.gsa) THAT Qxb6602916aProg.lean LOADS. Nothing in Lean hashes anything: it is a label: what it is worth is what the hold of that sum in a sandbox is worth. -/
noncomputable def Try.pinned : Pinned := { name := "qxb6602916a", sum := "ea7a5fe24c733b1c4ea216bfe21a610161a68954b3ab40c1b95511504a4bad45", checked := Try.checked }
namespace Rows
def none {H : Type} : Left H := { results := [], args := [] }

/-- 'zzlaws_root_b1.FnSplitAddressRejoinsAndTcpIsStable': WHATEVER THE INPUT: true; the input reads as it did. -/
def fnSplitAddressRejoinsAndTcpIsStableSpec : ChangeSpec := { name := "fnSplitAddressRejoinsAndTcpIsStable", fn := fun _ => fun
  | [d] => { results := [.lit (.bool true)], args := [d] }
  | _ => none }
def fnSplitAddressRejoinsAndTcpIsStableRow : OpenClaim := { program := "qxb6602916a", sum := "ea7a5fe24c733b1c4ea216bfe21a610161a68954b3ab40c1b95511504a4bad45", func := "example.com/chokewire/chokewire/zzlaws_root_b1.FnSplitAddressRejoinsAndTcpIsStable", spec := "fnSplitAddressRejoinsAndTcpIsStable", apart := false }
def FnSplitAddressRejoinsAndTcpIsStableSaid : Prop := fnSplitAddressRejoinsAndTcpIsStableRow.holds Try.pinned (OpenSpec.ofChange fnSplitAddressRejoinsAndTcpIsStableSpec)

/-- ITS FALSE NEIGHBOUR: 'it returns false'. Refute it at one input. -/
def fnSplitAddressRejoinsAndTcpIsStableWrong : ChangeSpec := { name := "fnSplitAddressRejoinsAndTcpIsStable", fn := fun _ => fun
  | [d] => { results := [.lit (.bool false)], args := [d] }
  | _ => none }
def FnSplitAddressRejoinsAndTcpIsStableWrongFalsely : Prop := fnSplitAddressRejoinsAndTcpIsStableRow.holds Try.pinned (OpenSpec.ofChange fnSplitAddressRejoinsAndTcpIsStableWrong)

end Rows
end Go.Proofs.Qxb6602916a
