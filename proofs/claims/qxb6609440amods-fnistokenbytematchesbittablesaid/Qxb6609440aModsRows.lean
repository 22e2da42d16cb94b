/-
  No cell of these rows narrows 'for every input' (looked for: loops, veiled, ifaces, maps, wideKeys, modest, calm, conditions, laid).
  DERIVED. THE GIVEN ROWS OF THIS SEAT. 3 by the template 'for every input the law returns true; each argument reads behind the call as it read before'; 0 by the template 'total and deterministic' (their statements: Qxb6609440aModsTotals.lean).
  GIVEN WITH THE SEED: the statements are not yours to turn. If you find one false, say at which input.
  Laid BY PROGRAM, IN A SANDBOX (cutbox-rows.mjs): the forced cells as the released guide's own fill.sh prints them over the translation 5c9f345f792b741d… (all of the seat's roots in one cut). By AI agents, Wed Nov 11 2026. No macro, syntax, notation, axiom, sorry.
-/
import Derived.Test.Qxb6609440aModsChecked
import GoSem.Claim
import GoSem.ClaimJoined
import GoSem.ClaimMapViews
import Derived.JoinedTies
import Derived.KernelRfl
namespace Go.Proofs.Qxb6609440aMods
/- THE CELL 'sum', in the pinned program and in every row, IS THE sha256 OF THE DUMP (.gsa) THAT Qxb6609440aModsProg.lean LOADS. Nothing in Lean hashes anything: it is a label: what it is worth is what the hold of that sum in a sandbox is worth. -/
noncomputable def Trym.pinned : Pinned := { name := "qxb6609440amods", sum := "5c9f345f792b741dba98962d58aac0ae55f2da8dae88d25cdd28ef3e892d894a", checked := Trym.checked }
namespace Rows
def none {H : Type} : Left H := { results := [], args := [] }

/-- 'zzlaws_root_b1.FnIsTokenByteMatchesBitTable': WHATEVER THE INPUT: true; the input reads as it did. -/
def fnIsTokenByteMatchesBitTableSpec : ChangeSpec := { name := "fnIsTokenByteMatchesBitTable", fn := fun _ => fun
  | [d] => { results := [.lit (.bool true)], args := [d] }
  | _ => none }
def fnIsTokenByteMatchesBitTableRow : OpenClaim := { program := "qxb6609440amods", sum := "5c9f345f792b741dba98962d58aac0ae55f2da8dae88d25cdd28ef3e892d894a", func := "example.com/rolecall/rolecall/zzlaws_root_b1.FnIsTokenByteMatchesBitTable", spec := "fnIsTokenByteMatchesBitTable", inPlace := ["internal/bytealg.IndexByteString"], make := .lifted ["publicsums"], apart := false }
def FnIsTokenByteMatchesBitTableSaid : Prop := fnIsTokenByteMatchesBitTableRow.holds Trym.pinned (OpenSpec.ofChange fnIsTokenByteMatchesBitTableSpec)

/-- ITS FALSE NEIGHBOUR: 'it returns false'. Refute it at one input. -/
def fnIsTokenByteMatchesBitTableWrong : ChangeSpec := { name := "fnIsTokenByteMatchesBitTable", fn := fun _ => fun
  | [d] => { results := [.lit (.bool false)], args := [d] }
  | _ => none }
def FnIsTokenByteMatchesBitTableWrongFalsely : Prop := fnIsTokenByteMatchesBitTableRow.holds Trym.pinned (OpenSpec.ofChange fnIsTokenByteMatchesBitTableWrong)

/-- 'zzlaws_root_b1.FnListTagBuildsTheListOrRefuses': WHATEVER THE INPUT: true; the input reads as it did. -/
def fnListTagBuildsTheListOrRefusesSpec : ChangeSpec := { name := "fnListTagBuildsTheListOrRefuses", fn := fun _ => fun
  | [d1, d2, d3] => { results := [.lit (.bool true)], args := [d1, d2, d3] }
  | _ => none }
def fnListTagBuildsTheListOrRefusesRow : OpenClaim := { program := "qxb6609440amods", sum := "5c9f345f792b741dba98962d58aac0ae55f2da8dae88d25cdd28ef3e892d894a", func := "example.com/rolecall/rolecall/zzlaws_root_b1.FnListTagBuildsTheListOrRefuses", spec := "fnListTagBuildsTheListOrRefuses", recurses := true, make := .lifted ["publicsums"], apart := false }
def FnListTagBuildsTheListOrRefusesSaid : Prop := fnListTagBuildsTheListOrRefusesRow.holds Trym.pinned (OpenSpec.ofChange fnListTagBuildsTheListOrRefusesSpec)

/-- ITS FALSE NEIGHBOUR: 'it returns false'. Refute it at one input. -/
def fnListTagBuildsTheListOrRefusesWrong : ChangeSpec := { name := "fnListTagBuildsTheListOrRefuses", fn := fun _ => fun
  | [d1, d2, d3] => { results := [.lit (.bool false)], args := [d1, d2, d3] }
  | _ => none }
def FnListTagBuildsTheListOrRefusesWrongFalsely : Prop := fnListTagBuildsTheListOrRefusesRow.holds Trym.pinned (OpenSpec.ofChange fnListTagBuildsTheListOrRefusesWrong)

/-- 'zzlaws_root_b1.FnListTagNestsUpToTenThousand': WHATEVER THE INPUT: true; the input reads as it did. -/
def fnListTagNestsUpToTenThousandSpec : ChangeSpec := { name := "fnListTagNestsUpToTenThousand", fn := fun _ => fun
  | [d1, d2] => { results := [.lit (.bool true)], args := [d1, d2] }
  | _ => none }
def fnListTagNestsUpToTenThousandRow : OpenClaim := { program := "qxb6609440amods", sum := "5c9f345f792b741dba98962d58aac0ae55f2da8dae88d25cdd28ef3e892d894a", func := "example.com/rolecall/rolecall/zzlaws_root_b1.FnListTagNestsUpToTenThousand", spec := "fnListTagNestsUpToTenThousand", recurses := true, make := .lifted ["publicsums"], apart := false }
def FnListTagNestsUpToTenThousandSaid : Prop := fnListTagNestsUpToTenThousandRow.holds Trym.pinned (OpenSpec.ofChange fnListTagNestsUpToTenThousandSpec)

/-- ITS FALSE NEIGHBOUR: 'it returns false'. Refute it at one input. -/
def fnListTagNestsUpToTenThousandWrong : ChangeSpec := { name := "fnListTagNestsUpToTenThousand", fn := fun _ => fun
  | [d1, d2] => { results := [.lit (.bool false)], args := [d1, d2] }
  | _ => none }
def FnListTagNestsUpToTenThousandWrongFalsely : Prop := fnListTagNestsUpToTenThousandRow.holds Trym.pinned (OpenSpec.ofChange fnListTagNestsUpToTenThousandWrong)

end Rows
end Go.Proofs.Qxb6609440aMods
