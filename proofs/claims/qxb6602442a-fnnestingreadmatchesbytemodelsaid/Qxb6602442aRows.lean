/-
  No cell of these rows narrows 'for every input' (looked for: loops, veiled, ifaces, maps, wideKeys, modest, calm, conditions, laid).
  DERIVED. THE GIVEN ROWS OF THIS SEAT. 4 by the template 'for every input the law returns true; each argument reads behind the call as it read before'; 0 by the template 'total and deterministic' (their statements: Qxb6602442aTotals.lean).
  GIVEN WITH THE SEED: the statements are not yours to turn. If you find one false, say at which input.
  Laid BY PROGRAM, IN A SANDBOX (cutbox-rows.mjs): the forced cells as the released guide's own fill.sh prints them over the translation 101debdd352c028b… (all of the seat's roots in one cut). By AI agents, Wed Nov 11 2026. No macro, syntax, notation, axiom, sorry.
-/
import Derived.Test.Qxb6602442aChecked
import GoSem.Claim
import GoSem.ClaimJoined
import GoSem.ClaimMapViews
import Derived.JoinedTies
import Derived.KernelRfl
namespace Go.Proofs.Qxb6602442a
/- THE CELL 'sum', in the pinned program and in every row, IS THE sha256 OF THE DUMP (.gsa) THAT Qxb6602442aProg.lean LOADS. Nothing in Lean hashes anything: it is a label: what it is worth is what the hold of that sum in a sandbox is worth. -/
noncomputable def Try.pinned : Pinned := { name := "qxb6602442a", sum := "101debdd352c028bae47a299fc613238e8eedd4ea682ce0a5b9abacc8214f18a", checked := Try.checked }
namespace Rows
def none {H : Type} : Left H := { results := [], args := [] }

/-- 'zzlaws_internal_jsonread_b1.FnNestingReadMatchesByteModel': WHATEVER THE INPUT: true; the input reads as it did. -/
def fnNestingReadMatchesByteModelSpec : ChangeSpec := { name := "fnNestingReadMatchesByteModel", fn := fun _ => fun
  | [d1, d2, d3, d4, d5] => { results := [.lit (.bool true)], args := [d1, d2, d3, d4, d5] }
  | _ => none }
def fnNestingReadMatchesByteModelRow : OpenClaim := { program := "qxb6602442a", sum := "101debdd352c028bae47a299fc613238e8eedd4ea682ce0a5b9abacc8214f18a", func := "example.com/keelstone/keelstone/zzlaws_internal_jsonread_b1.FnNestingReadMatchesByteModel", spec := "fnNestingReadMatchesByteModel", inPlace := ["internal/bytealg.IndexByte"], apart := false }
def FnNestingReadMatchesByteModelSaid : Prop := fnNestingReadMatchesByteModelRow.holds Try.pinned (OpenSpec.ofChange fnNestingReadMatchesByteModelSpec)

/-- ITS FALSE NEIGHBOUR: 'it returns false'. Refute it at one input. -/
def fnNestingReadMatchesByteModelWrong : ChangeSpec := { name := "fnNestingReadMatchesByteModel", fn := fun _ => fun
  | [d1, d2, d3, d4, d5] => { results := [.lit (.bool false)], args := [d1, d2, d3, d4, d5] }
  | _ => none }
def FnNestingReadMatchesByteModelWrongFalsely : Prop := fnNestingReadMatchesByteModelRow.holds Try.pinned (OpenSpec.ofChange fnNestingReadMatchesByteModelWrong)

/-- 'zzlaws_internal_jsonread_b1.FnNestingReadSplitAnywhereAgrees': WHATEVER THE INPUT: true; the input reads as it did. -/
def fnNestingReadSplitAnywhereAgreesSpec : ChangeSpec := { name := "fnNestingReadSplitAnywhereAgrees", fn := fun _ => fun
  | [d1, d2, d3, d4, d5, d6] => { results := [.lit (.bool true)], args := [d1, d2, d3, d4, d5, d6] }
  | _ => none }
def fnNestingReadSplitAnywhereAgreesRow : OpenClaim := { program := "qxb6602442a", sum := "101debdd352c028bae47a299fc613238e8eedd4ea682ce0a5b9abacc8214f18a", func := "example.com/keelstone/keelstone/zzlaws_internal_jsonread_b1.FnNestingReadSplitAnywhereAgrees", spec := "fnNestingReadSplitAnywhereAgrees", inPlace := ["internal/bytealg.IndexByte"], apart := false }
def FnNestingReadSplitAnywhereAgreesSaid : Prop := fnNestingReadSplitAnywhereAgreesRow.holds Try.pinned (OpenSpec.ofChange fnNestingReadSplitAnywhereAgreesSpec)

/-- ITS FALSE NEIGHBOUR: 'it returns false'. Refute it at one input. -/
def fnNestingReadSplitAnywhereAgreesWrong : ChangeSpec := { name := "fnNestingReadSplitAnywhereAgrees", fn := fun _ => fun
  | [d1, d2, d3, d4, d5, d6] => { results := [.lit (.bool false)], args := [d1, d2, d3, d4, d5, d6] }
  | _ => none }
def FnNestingReadSplitAnywhereAgreesWrongFalsely : Prop := fnNestingReadSplitAnywhereAgreesRow.holds Try.pinned (OpenSpec.ofChange fnNestingReadSplitAnywhereAgreesWrong)

/-- 'zzlaws_internal_jsonread_b1.FnNestingPassStringMatchesByteModel': WHATEVER THE INPUT: true; the input reads as it did. -/
def fnNestingPassStringMatchesByteModelSpec : ChangeSpec := { name := "fnNestingPassStringMatchesByteModel", fn := fun _ => fun
  | [d1, d2, d3, d4, d5] => { results := [.lit (.bool true)], args := [d1, d2, d3, d4, d5] }
  | _ => none }
def fnNestingPassStringMatchesByteModelRow : OpenClaim := { program := "qxb6602442a", sum := "101debdd352c028bae47a299fc613238e8eedd4ea682ce0a5b9abacc8214f18a", func := "example.com/keelstone/keelstone/zzlaws_internal_jsonread_b1.FnNestingPassStringMatchesByteModel", spec := "fnNestingPassStringMatchesByteModel", inPlace := ["internal/bytealg.IndexByte"], apart := false }
def FnNestingPassStringMatchesByteModelSaid : Prop := fnNestingPassStringMatchesByteModelRow.holds Try.pinned (OpenSpec.ofChange fnNestingPassStringMatchesByteModelSpec)

/-- ITS FALSE NEIGHBOUR: 'it returns false'. Refute it at one input. -/
def fnNestingPassStringMatchesByteModelWrong : ChangeSpec := { name := "fnNestingPassStringMatchesByteModel", fn := fun _ => fun
  | [d1, d2, d3, d4, d5] => { results := [.lit (.bool false)], args := [d1, d2, d3, d4, d5] }
  | _ => none }
def FnNestingPassStringMatchesByteModelWrongFalsely : Prop := fnNestingPassStringMatchesByteModelRow.holds Try.pinned (OpenSpec.ofChange fnNestingPassStringMatchesByteModelWrong)

/-- 'zzlaws_internal_jsonread_b1.FnNameSetAddReportsEarlierEqualName': WHATEVER THE INPUT: true; the input reads as it did. -/
def fnNameSetAddReportsEarlierEqualNameSpec : ChangeSpec := { name := "fnNameSetAddReportsEarlierEqualName", fn := fun _ => fun
  | [d] => { results := [.lit (.bool true)], args := [d] }
  | _ => none }
def fnNameSetAddReportsEarlierEqualNameRow : OpenClaim := { program := "qxb6602442a", sum := "101debdd352c028bae47a299fc613238e8eedd4ea682ce0a5b9abacc8214f18a", func := "example.com/keelstone/keelstone/zzlaws_internal_jsonread_b1.FnNameSetAddReportsEarlierEqualName", spec := "fnNameSetAddReportsEarlierEqualName", apart := false }
def FnNameSetAddReportsEarlierEqualNameSaid : Prop := fnNameSetAddReportsEarlierEqualNameRow.holds Try.pinned (OpenSpec.ofChange fnNameSetAddReportsEarlierEqualNameSpec)

/-- ITS FALSE NEIGHBOUR: 'it returns false'. Refute it at one input. -/
def fnNameSetAddReportsEarlierEqualNameWrong : ChangeSpec := { name := "fnNameSetAddReportsEarlierEqualName", fn := fun _ => fun
  | [d] => { results := [.lit (.bool false)], args := [d] }
  | _ => none }
def FnNameSetAddReportsEarlierEqualNameWrongFalsely : Prop := fnNameSetAddReportsEarlierEqualNameRow.holds Try.pinned (OpenSpec.ofChange fnNameSetAddReportsEarlierEqualNameWrong)

end Rows
end Go.Proofs.Qxb6602442a
