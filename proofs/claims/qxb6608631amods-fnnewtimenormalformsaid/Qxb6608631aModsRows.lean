/-
  No cell of these rows narrows 'for every input' (looked for: loops, veiled, ifaces, maps, wideKeys, modest, calm, conditions, laid).
  DERIVED. THE GIVEN ROWS OF THIS SEAT. 1 by the template 'for every input the law returns true; each argument reads behind the call as it read before'; 0 by the template 'total and deterministic' (their statements: Qxb6608631aModsTotals.lean).
  GIVEN WITH THE SEED: the statements are not yours to turn. If you find one false, say at which input.
  Laid BY PROGRAM, IN A SANDBOX (cutbox-rows.mjs): the forced cells as the released guide's own fill.sh prints them over the translation d249938ff5c17cc7… (all of the seat's roots in one cut). By AI agents, Wed Nov 11 2026. No macro, syntax, notation, axiom, sorry.
-/
import Derived.Test.Qxb6608631aModsChecked
import GoSem.Claim
import GoSem.ClaimJoined
import GoSem.ClaimMapViews
import Derived.JoinedTies
import Derived.KernelRfl
namespace Go.Proofs.Qxb6608631aMods
/- THE CELL 'sum', in the pinned program and in every row, IS THE sha256 OF THE DUMP (.gsa) THAT Qxb6608631aModsProg.lean LOADS. Nothing in Lean hashes anything: it is a label: what it is worth is what the hold of that sum in a sandbox is worth. -/
noncomputable def Trym.pinned : Pinned := { name := "qxb6608631amods", sum := "d249938ff5c17cc74d834e64cb6c53c7c637797b16de5effda25aabc068026d9", checked := Trym.checked }
namespace Rows
def none {H : Type} : Left H := { results := [], args := [] }

/-- 'zzlaws_root_b1.FnNewTimeNormalForm': WHATEVER THE INPUT: true; the input reads as it did. -/
def fnNewTimeNormalFormSpec : ChangeSpec := { name := "fnNewTimeNormalForm", fn := fun _ => fun
  | [d] => { results := [.lit (.bool true)], args := [d] }
  | _ => none }
def fnNewTimeNormalFormRow : OpenClaim := { program := "qxb6608631amods", sum := "d249938ff5c17cc74d834e64cb6c53c7c637797b16de5effda25aabc068026d9", func := "example.com/settleday/settleday/zzlaws_root_b1.FnNewTimeNormalForm", spec := "fnNewTimeNormalForm", make := .lifted ["publicsums"], apart := false }
def FnNewTimeNormalFormSaid : Prop := fnNewTimeNormalFormRow.holds Trym.pinned (OpenSpec.ofChange fnNewTimeNormalFormSpec)

/-- ITS FALSE NEIGHBOUR: 'it returns false'. Refute it at one input. -/
def fnNewTimeNormalFormWrong : ChangeSpec := { name := "fnNewTimeNormalForm", fn := fun _ => fun
  | [d] => { results := [.lit (.bool false)], args := [d] }
  | _ => none }
def FnNewTimeNormalFormWrongFalsely : Prop := fnNewTimeNormalFormRow.holds Trym.pinned (OpenSpec.ofChange fnNewTimeNormalFormWrong)

end Rows
end Go.Proofs.Qxb6608631aMods
