/-
  No cell of these rows narrows 'for every input' (looked for: loops, veiled, ifaces, maps, wideKeys, modest, calm, conditions, laid).
  DERIVED. THE GIVEN ROWS OF THIS SEAT. 1 by the template 'for every input the law returns true; each argument reads behind the call as it read before'; 0 by the template 'total and deterministic' (their statements: Qxb6618981aModsTotals.lean).
  GIVEN WITH THE SEED: the statements are not yours to turn. If you find one false, say at which input.
  Laid BY PROGRAM, IN A SANDBOX (cutbox-rows.mjs): the forced cells as the released guide's own fill.sh prints them over the translation ea6999c05a1bbc1a… (all of the seat's roots in one cut). By AI agents, Wed Nov 11 2026. No macro, syntax, notation, axiom, sorry.
-/
import Derived.Test.Qxb6618981aModsChecked
import GoSem.Claim
import GoSem.ClaimJoined
import GoSem.ClaimMapViews
import Derived.JoinedTies
import Derived.KernelRfl
namespace Go.Proofs.Qxb6618981aMods
/- THE CELL 'sum', in the pinned program and in every row, IS THE sha256 OF THE DUMP (.gsa) THAT Qxb6618981aModsProg.lean LOADS. Nothing in Lean hashes anything: it is a label: what it is worth is what the hold of that sum in a sandbox is worth. -/
noncomputable def Trym.pinned : Pinned := { name := "qxb6618981amods", sum := "ea6999c05a1bbc1a04c4d2e1972bf7ed09925a7dd5241cebb99d3389b9e48cbc", checked := Trym.checked }
namespace Rows
def none {H : Type} : Left H := { results := [], args := [] }

/-- 'zzlaws_pkg_resolve_b1.FnMovedChainAndCarriedOver': WHATEVER THE INPUT: true; the input reads as it did. -/
def fnMovedChainAndCarriedOverSpec : ChangeSpec := { name := "fnMovedChainAndCarriedOver", fn := fun _ => fun
  | [d1, d2, d3, d4] => { results := [.lit (.bool true)], args := [d1, d2, d3, d4] }
  | _ => none }
def fnMovedChainAndCarriedOverRow : OpenClaim := { program := "qxb6618981amods", sum := "ea6999c05a1bbc1a04c4d2e1972bf7ed09925a7dd5241cebb99d3389b9e48cbc", func := "example.com/packwright/packwright/zzlaws_pkg_resolve_b1.FnMovedChainAndCarriedOver", spec := "fnMovedChainAndCarriedOver", make := .lifted ["publicsums"], apart := false }
def FnMovedChainAndCarriedOverSaid : Prop := fnMovedChainAndCarriedOverRow.holds Trym.pinned (OpenSpec.ofChange fnMovedChainAndCarriedOverSpec)

/-- ITS FALSE NEIGHBOUR: 'it returns false'. Refute it at one input. -/
def fnMovedChainAndCarriedOverWrong : ChangeSpec := { name := "fnMovedChainAndCarriedOver", fn := fun _ => fun
  | [d1, d2, d3, d4] => { results := [.lit (.bool false)], args := [d1, d2, d3, d4] }
  | _ => none }
def FnMovedChainAndCarriedOverWrongFalsely : Prop := fnMovedChainAndCarriedOverRow.holds Trym.pinned (OpenSpec.ofChange fnMovedChainAndCarriedOverWrong)

end Rows
end Go.Proofs.Qxb6618981aMods
