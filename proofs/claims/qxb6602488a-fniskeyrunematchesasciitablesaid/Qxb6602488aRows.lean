/-
  No cell of these rows narrows 'for every input' (looked for: loops, veiled, ifaces, maps, wideKeys, modest, calm, conditions, laid).
  DERIVED. THE GIVEN ROWS OF THIS SEAT. 1 by the template 'for every input the law returns true; each argument reads behind the call as it read before'; 0 by the template 'total and deterministic' (their statements: Qxb6602488aTotals.lean).
  GIVEN WITH THE SEED: the statements are not yours to turn. If you find one false, say at which input.
  Laid BY PROGRAM, IN A SANDBOX (cutbox-rows.mjs): the forced cells as the released guide's own fill.sh prints them over the translation 1694d1980a3449d2… (all of the seat's roots in one cut). By AI agents, Wed Nov 11 2026. No macro, syntax, notation, axiom, sorry.
-/
import Derived.Test.Qxb6602488aChecked
import GoSem.Claim
import GoSem.ClaimJoined
import GoSem.ClaimMapViews
import Derived.JoinedTies
import Derived.KernelRfl
namespace Go.Proofs.Qxb6602488a
/- THE CELL 'sum', in the pinned program and in every row, IS THE sha256 OF THE DUMP (.gsa) THAT Qxb6602488aProg.lean LOADS. Nothing in Lean hashes anything: it is a label: what it is worth is what the hold of that sum in a sandbox is worth. -/
noncomputable def Try.pinned : Pinned := { name := "qxb6602488a", sum := "1694d1980a3449d29eb80920dfcc316a46464515ff4ae16214946cfec911906b", checked := Try.checked }
namespace Rows
def none {H : Type} : Left H := { results := [], args := [] }

/-- 'zzlaws_root_b1.FnIsKeyRuneMatchesASCIITable': WHATEVER THE INPUT: true; the input reads as it did. -/
def fnIsKeyRuneMatchesASCIITableSpec : ChangeSpec := { name := "fnIsKeyRuneMatchesASCIITable", fn := fun _ => fun
  | [d] => { results := [.lit (.bool true)], args := [d] }
  | _ => none }
def fnIsKeyRuneMatchesASCIITableRow : OpenClaim := { program := "qxb6602488a", sum := "1694d1980a3449d29eb80920dfcc316a46464515ff4ae16214946cfec911906b", func := "example.com/leashold/leashold/zzlaws_root_b1.FnIsKeyRuneMatchesASCIITable", spec := "fnIsKeyRuneMatchesASCIITable", inPlace := ["internal/bytealg.IndexByteString", "internal/bytealg.IndexString"], named := ["internal/bytealg.MaxLen"], apart := false }
def FnIsKeyRuneMatchesASCIITableSaid : Prop := fnIsKeyRuneMatchesASCIITableRow.holds Try.pinned (OpenSpec.ofChange fnIsKeyRuneMatchesASCIITableSpec)

/-- ITS FALSE NEIGHBOUR: 'it returns false'. Refute it at one input. -/
def fnIsKeyRuneMatchesASCIITableWrong : ChangeSpec := { name := "fnIsKeyRuneMatchesASCIITable", fn := fun _ => fun
  | [d] => { results := [.lit (.bool false)], args := [d] }
  | _ => none }
def FnIsKeyRuneMatchesASCIITableWrongFalsely : Prop := fnIsKeyRuneMatchesASCIITableRow.holds Try.pinned (OpenSpec.ofChange fnIsKeyRuneMatchesASCIITableWrong)

end Rows
end Go.Proofs.Qxb6602488a
