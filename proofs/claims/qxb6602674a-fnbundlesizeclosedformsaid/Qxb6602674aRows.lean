/-
  No cell of these rows narrows 'for every input' (looked for: loops, veiled, ifaces, maps, wideKeys, modest, calm, conditions, laid).
  DERIVED. THE GIVEN ROWS OF THIS SEAT. 6 by the template 'for every input the law returns true; each argument reads behind the call as it read before'; 0 by the template 'total and deterministic' (their statements: Qxb6602674aTotals.lean).
  GIVEN WITH THE SEED: the statements are not yours to turn. If you find one false, say at which input.
  Laid BY PROGRAM, IN A SANDBOX (cutbox-rows.mjs): the forced cells as the released guide's own fill.sh prints them over the translation 78fb323808c780cc… (all of the seat's roots in one cut). By AI agents, Wed Nov 11 2026. No macro, syntax, notation, axiom, sorry.
-/
import Derived.Test.Qxb6602674aChecked
import GoSem.Claim
import GoSem.ClaimJoined
import GoSem.ClaimMapViews
import Derived.JoinedTies
import Derived.KernelRfl
namespace Go.Proofs.Qxb6602674a
/- THE CELL 'sum', in the pinned program and in every row, IS THE sha256 OF THE DUMP (.gsa) THAT Qxb6602674aProg.lean LOADS. Nothing in Lean hashes anything: it is a label: what it is worth is what the hold of that sum in a sandbox is worth. -/
noncomputable def Try.pinned : Pinned := { name := "qxb6602674a", sum := "78fb323808c780cc376da6e5758daff6d6153b45022832d3698e5d38321045a7", checked := Try.checked }
namespace Rows
def none {H : Type} : Left H := { results := [], args := [] }

/-- 'zzlaws_pkg_tile_b1.FnFirstExact': WHATEVER THE INPUT: true; the input reads as it did. -/
def fnFirstExactSpec : ChangeSpec := { name := "fnFirstExact", fn := fun _ => fun
  | [d1, d2, d3, d4, d5] => { results := [.lit (.bool true)], args := [d1, d2, d3, d4, d5] }
  | _ => none }
def fnFirstExactRow : OpenClaim := { program := "qxb6602674a", sum := "78fb323808c780cc376da6e5758daff6d6153b45022832d3698e5d38321045a7", func := "example.com/quorumlog/quorumlog/zzlaws_pkg_tile_b1.FnFirstExact", spec := "fnFirstExact", apart := false }
def FnFirstExactSaid : Prop := fnFirstExactRow.holds Try.pinned (OpenSpec.ofChange fnFirstExactSpec)

/-- ITS FALSE NEIGHBOUR: 'it returns false'. Refute it at one input. -/
def fnFirstExactWrong : ChangeSpec := { name := "fnFirstExact", fn := fun _ => fun
  | [d1, d2, d3, d4, d5] => { results := [.lit (.bool false)], args := [d1, d2, d3, d4, d5] }
  | _ => none }
def FnFirstExactWrongFalsely : Prop := fnFirstExactRow.holds Try.pinned (OpenSpec.ofChange fnFirstExactWrong)

/-- 'zzlaws_pkg_tile_b1.FnFirstMonotoneInSize': WHATEVER THE INPUT: true; the input reads as it did. -/
def fnFirstMonotoneInSizeSpec : ChangeSpec := { name := "fnFirstMonotoneInSize", fn := fun _ => fun
  | [d1, d2, d3, d4, d5, d6] => { results := [.lit (.bool true)], args := [d1, d2, d3, d4, d5, d6] }
  | _ => none }
def fnFirstMonotoneInSizeRow : OpenClaim := { program := "qxb6602674a", sum := "78fb323808c780cc376da6e5758daff6d6153b45022832d3698e5d38321045a7", func := "example.com/quorumlog/quorumlog/zzlaws_pkg_tile_b1.FnFirstMonotoneInSize", spec := "fnFirstMonotoneInSize", apart := false }
def FnFirstMonotoneInSizeSaid : Prop := fnFirstMonotoneInSizeRow.holds Try.pinned (OpenSpec.ofChange fnFirstMonotoneInSizeSpec)

/-- ITS FALSE NEIGHBOUR: 'it returns false'. Refute it at one input. -/
def fnFirstMonotoneInSizeWrong : ChangeSpec := { name := "fnFirstMonotoneInSize", fn := fun _ => fun
  | [d1, d2, d3, d4, d5, d6] => { results := [.lit (.bool false)], args := [d1, d2, d3, d4, d5, d6] }
  | _ => none }
def FnFirstMonotoneInSizeWrongFalsely : Prop := fnFirstMonotoneInSizeRow.holds Try.pinned (OpenSpec.ofChange fnFirstMonotoneInSizeWrong)

/-- 'zzlaws_pkg_tile_b1.FnFirstNarrowerTileHeld': WHATEVER THE INPUT: true; the input reads as it did. -/
def fnFirstNarrowerTileHeldSpec : ChangeSpec := { name := "fnFirstNarrowerTileHeld", fn := fun _ => fun
  | [d1, d2, d3, d4, d5, d6] => { results := [.lit (.bool true)], args := [d1, d2, d3, d4, d5, d6] }
  | _ => none }
def fnFirstNarrowerTileHeldRow : OpenClaim := { program := "qxb6602674a", sum := "78fb323808c780cc376da6e5758daff6d6153b45022832d3698e5d38321045a7", func := "example.com/quorumlog/quorumlog/zzlaws_pkg_tile_b1.FnFirstNarrowerTileHeld", spec := "fnFirstNarrowerTileHeld", apart := false }
def FnFirstNarrowerTileHeldSaid : Prop := fnFirstNarrowerTileHeldRow.holds Try.pinned (OpenSpec.ofChange fnFirstNarrowerTileHeldSpec)

/-- ITS FALSE NEIGHBOUR: 'it returns false'. Refute it at one input. -/
def fnFirstNarrowerTileHeldWrong : ChangeSpec := { name := "fnFirstNarrowerTileHeld", fn := fun _ => fun
  | [d1, d2, d3, d4, d5, d6] => { results := [.lit (.bool false)], args := [d1, d2, d3, d4, d5, d6] }
  | _ => none }
def FnFirstNarrowerTileHeldWrongFalsely : Prop := fnFirstNarrowerTileHeldRow.holds Try.pinned (OpenSpec.ofChange fnFirstNarrowerTileHeldWrong)

/-- 'zzlaws_pkg_tile_b1.FnBundleSizeClosedForm': WHATEVER THE INPUT: true; the input reads as it did. -/
def fnBundleSizeClosedFormSpec : ChangeSpec := { name := "fnBundleSizeClosedForm", fn := fun _ => fun
  | [d] => { results := [.lit (.bool true)], args := [d] }
  | _ => none }
def fnBundleSizeClosedFormRow : OpenClaim := { program := "qxb6602674a", sum := "78fb323808c780cc376da6e5758daff6d6153b45022832d3698e5d38321045a7", func := "example.com/quorumlog/quorumlog/zzlaws_pkg_tile_b1.FnBundleSizeClosedForm", spec := "fnBundleSizeClosedForm", apart := false }
def FnBundleSizeClosedFormSaid : Prop := fnBundleSizeClosedFormRow.holds Try.pinned (OpenSpec.ofChange fnBundleSizeClosedFormSpec)

/-- ITS FALSE NEIGHBOUR: 'it returns false'. Refute it at one input. -/
def fnBundleSizeClosedFormWrong : ChangeSpec := { name := "fnBundleSizeClosedForm", fn := fun _ => fun
  | [d] => { results := [.lit (.bool false)], args := [d] }
  | _ => none }
def FnBundleSizeClosedFormWrongFalsely : Prop := fnBundleSizeClosedFormRow.holds Try.pinned (OpenSpec.ofChange fnBundleSizeClosedFormWrong)

/-- 'zzlaws_pkg_tile_b1.FnBundleSizeAdditive': WHATEVER THE INPUT: true; the input reads as it did. -/
def fnBundleSizeAdditiveSpec : ChangeSpec := { name := "fnBundleSizeAdditive", fn := fun _ => fun
  | [d1, d2] => { results := [.lit (.bool true)], args := [d1, d2] }
  | _ => none }
def fnBundleSizeAdditiveRow : OpenClaim := { program := "qxb6602674a", sum := "78fb323808c780cc376da6e5758daff6d6153b45022832d3698e5d38321045a7", func := "example.com/quorumlog/quorumlog/zzlaws_pkg_tile_b1.FnBundleSizeAdditive", spec := "fnBundleSizeAdditive", apart := false }
def FnBundleSizeAdditiveSaid : Prop := fnBundleSizeAdditiveRow.holds Try.pinned (OpenSpec.ofChange fnBundleSizeAdditiveSpec)

/-- ITS FALSE NEIGHBOUR: 'it returns false'. Refute it at one input. -/
def fnBundleSizeAdditiveWrong : ChangeSpec := { name := "fnBundleSizeAdditive", fn := fun _ => fun
  | [d1, d2] => { results := [.lit (.bool false)], args := [d1, d2] }
  | _ => none }
def FnBundleSizeAdditiveWrongFalsely : Prop := fnBundleSizeAdditiveRow.holds Try.pinned (OpenSpec.ofChange fnBundleSizeAdditiveWrong)

/-- 'zzlaws_pkg_tile_b1.FnBundleSizeSwapInvariant': WHATEVER THE INPUT: true; the input reads as it did. -/
def fnBundleSizeSwapInvariantSpec : ChangeSpec := { name := "fnBundleSizeSwapInvariant", fn := fun _ => fun
  | [d1, d2, d3] => { results := [.lit (.bool true)], args := [d1, d2, d3] }
  | _ => none }
def fnBundleSizeSwapInvariantRow : OpenClaim := { program := "qxb6602674a", sum := "78fb323808c780cc376da6e5758daff6d6153b45022832d3698e5d38321045a7", func := "example.com/quorumlog/quorumlog/zzlaws_pkg_tile_b1.FnBundleSizeSwapInvariant", spec := "fnBundleSizeSwapInvariant", apart := false }
def FnBundleSizeSwapInvariantSaid : Prop := fnBundleSizeSwapInvariantRow.holds Try.pinned (OpenSpec.ofChange fnBundleSizeSwapInvariantSpec)

/-- ITS FALSE NEIGHBOUR: 'it returns false'. Refute it at one input. -/
def fnBundleSizeSwapInvariantWrong : ChangeSpec := { name := "fnBundleSizeSwapInvariant", fn := fun _ => fun
  | [d1, d2, d3] => { results := [.lit (.bool false)], args := [d1, d2, d3] }
  | _ => none }
def FnBundleSizeSwapInvariantWrongFalsely : Prop := fnBundleSizeSwapInvariantRow.holds Try.pinned (OpenSpec.ofChange fnBundleSizeSwapInvariantWrong)

end Rows
end Go.Proofs.Qxb6602674a
