/-
  No cell of these rows narrows 'for every input' (looked for: loops, veiled, ifaces, maps, wideKeys, modest, calm, conditions, laid).
  DERIVED. THE GIVEN ROWS OF THIS SEAT. 2 by the template 'for every input the law returns true; each argument reads behind the call as it read before'; 0 by the template 'total and deterministic' (their statements: YoedwwTotals.lean).
  GIVEN WITH THE SEED: the statements are not yours to turn. If you find one false, say at which input.
  Laid BY PROGRAM, IN A SANDBOX (cutbox-rows.mjs): the forced cells as the released guide's own fill.sh prints them over the translation 00d67b8900c6b7ca… (all of the seat's roots in one cut). By AI agents, Wed Nov 11 2026. No macro, syntax, notation, axiom, sorry.
-/
import Derived.Test.YoedwwChecked
import GoSem.Claim
import GoSem.ClaimJoined
import GoSem.ClaimMapViews
import Derived.JoinedTies
import Derived.KernelRfl
namespace Go.Proofs.Yoedww
/- THE CELL 'sum', in the pinned program and in every row, IS THE sha256 OF THE DUMP (.gsa) THAT YoedwwProg.lean LOADS. Nothing in Lean hashes anything: it is a label: what it is worth is what the hold of that sum in a sandbox is worth. -/
noncomputable def Edwg.pinned : Pinned := { name := "yoedww", sum := "00d67b8900c6b7ca15e16f2b4e1f47e714889443a97ef143dbc1d56107f7d2db", checked := Edwg.checked }
namespace Rows
def none {H : Type} : Left H := { results := [], args := [] }

/-- 'zzlaws_root_b1.FnCountObjectsCountsEveryNode': WHATEVER THE INPUT: true; the input reads as it did. -/
def fnCountObjectsCountsEveryNodeSpec : ChangeSpec := { name := "fnCountObjectsCountsEveryNode", fn := fun _ => fun
  | [d] => { results := [.lit (.bool true)], args := [d] }
  | _ => none }
def fnCountObjectsCountsEveryNodeRow : OpenClaim := { program := "yoedww", sum := "00d67b8900c6b7ca15e16f2b4e1f47e714889443a97ef143dbc1d56107f7d2db", func := "github.com/d5/tengo/v2/zzlaws_root_b1.FnCountObjectsCountsEveryNode", spec := "fnCountObjectsCountsEveryNode", recurses := true, apart := false }
def FnCountObjectsCountsEveryNodeSaid : Prop := fnCountObjectsCountsEveryNodeRow.holds Edwg.pinned (OpenSpec.ofChange fnCountObjectsCountsEveryNodeSpec)

/-- ITS FALSE NEIGHBOUR: 'it returns false'. Refute it at one input. -/
def fnCountObjectsCountsEveryNodeWrong : ChangeSpec := { name := "fnCountObjectsCountsEveryNode", fn := fun _ => fun
  | [d] => { results := [.lit (.bool false)], args := [d] }
  | _ => none }
def FnCountObjectsCountsEveryNodeWrongFalsely : Prop := fnCountObjectsCountsEveryNodeRow.holds Edwg.pinned (OpenSpec.ofChange fnCountObjectsCountsEveryNodeWrong)

/-- 'zzlaws_root_b1.FnCountObjectsAddsOverParts': WHATEVER THE INPUT: true; the input reads as it did. -/
def fnCountObjectsAddsOverPartsSpec : ChangeSpec := { name := "fnCountObjectsAddsOverParts", fn := fun _ => fun
  | [d] => { results := [.lit (.bool true)], args := [d] }
  | _ => none }
def fnCountObjectsAddsOverPartsRow : OpenClaim := { program := "yoedww", sum := "00d67b8900c6b7ca15e16f2b4e1f47e714889443a97ef143dbc1d56107f7d2db", func := "github.com/d5/tengo/v2/zzlaws_root_b1.FnCountObjectsAddsOverParts", spec := "fnCountObjectsAddsOverParts", recurses := true, apart := false }
def FnCountObjectsAddsOverPartsSaid : Prop := fnCountObjectsAddsOverPartsRow.holds Edwg.pinned (OpenSpec.ofChange fnCountObjectsAddsOverPartsSpec)

/-- ITS FALSE NEIGHBOUR: 'it returns false'. Refute it at one input. -/
def fnCountObjectsAddsOverPartsWrong : ChangeSpec := { name := "fnCountObjectsAddsOverParts", fn := fun _ => fun
  | [d] => { results := [.lit (.bool false)], args := [d] }
  | _ => none }
def FnCountObjectsAddsOverPartsWrongFalsely : Prop := fnCountObjectsAddsOverPartsRow.holds Edwg.pinned (OpenSpec.ofChange fnCountObjectsAddsOverPartsWrong)

end Rows
end Go.Proofs.Yoedww
