/-
  No cell of these rows narrows 'for every input' (looked for: loops, veiled, ifaces, maps, wideKeys, modest, calm, conditions, laid).
  DERIVED. THE GIVEN ROWS OF THIS SEAT. 1 by the template 'for every input the law returns true; each argument reads behind the call as it read before'; 0 by the template 'total and deterministic' (their statements: Qxb6608993aModsTotals.lean).
  GIVEN WITH THE SEED: the statements are not yours to turn. If you find one false, say at which input.
  Laid BY PROGRAM, IN A SANDBOX (cutbox-rows.mjs): the forced cells as the released guide's own fill.sh prints them over the translation 234b2ba8bab4f234… (all of the seat's roots in one cut). By AI agents, Wed Nov 11 2026. No macro, syntax, notation, axiom, sorry.
-/
import Derived.Test.Qxb6608993aModsChecked
import GoSem.Claim
import GoSem.ClaimJoined
import GoSem.ClaimMapViews
import Derived.JoinedTies
import Derived.KernelRfl
namespace Go.Proofs.Qxb6608993aMods
/- THE CELL 'sum', in the pinned program and in every row, IS THE sha256 OF THE DUMP (.gsa) THAT Qxb6608993aModsProg.lean LOADS. Nothing in Lean hashes anything: it is a label: what it is worth is what the hold of that sum in a sandbox is worth. -/
noncomputable def Trym.pinned : Pinned := { name := "qxb6608993amods", sum := "234b2ba8bab4f234d9c24be6a19166a7782aff2a326316e28562eb8053c7e384", checked := Trym.checked }
namespace Rows
def none {H : Type} : Left H := { results := [], args := [] }

/-- 'zzlaws_root_b1.FnHasAnyPrefixSplitsOverAnyCutAndGrowsWithS': WHATEVER THE INPUT: true; the input reads as it did. -/
def fnHasAnyPrefixSplitsOverAnyCutAndGrowsWithSSpec : ChangeSpec := { name := "fnHasAnyPrefixSplitsOverAnyCutAndGrowsWithS", fn := fun _ => fun
  | [d1, d2, d3, d4] => { results := [.lit (.bool true)], args := [d1, d2, d3, d4] }
  | _ => none }
def fnHasAnyPrefixSplitsOverAnyCutAndGrowsWithSRow : OpenClaim := { program := "qxb6608993amods", sum := "234b2ba8bab4f234d9c24be6a19166a7782aff2a326316e28562eb8053c7e384", func := "example.com/permitwell/permitwell/zzlaws_root_b1.FnHasAnyPrefixSplitsOverAnyCutAndGrowsWithS", spec := "fnHasAnyPrefixSplitsOverAnyCutAndGrowsWithS", make := .lifted ["publicsums"], apart := false }
def FnHasAnyPrefixSplitsOverAnyCutAndGrowsWithSSaid : Prop := fnHasAnyPrefixSplitsOverAnyCutAndGrowsWithSRow.holds Trym.pinned (OpenSpec.ofChange fnHasAnyPrefixSplitsOverAnyCutAndGrowsWithSSpec)

/-- ITS FALSE NEIGHBOUR: 'it returns false'. Refute it at one input. -/
def fnHasAnyPrefixSplitsOverAnyCutAndGrowsWithSWrong : ChangeSpec := { name := "fnHasAnyPrefixSplitsOverAnyCutAndGrowsWithS", fn := fun _ => fun
  | [d1, d2, d3, d4] => { results := [.lit (.bool false)], args := [d1, d2, d3, d4] }
  | _ => none }
def FnHasAnyPrefixSplitsOverAnyCutAndGrowsWithSWrongFalsely : Prop := fnHasAnyPrefixSplitsOverAnyCutAndGrowsWithSRow.holds Trym.pinned (OpenSpec.ofChange fnHasAnyPrefixSplitsOverAnyCutAndGrowsWithSWrong)

end Rows
end Go.Proofs.Qxb6608993aMods
