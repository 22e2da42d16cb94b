/-
  No cell of these rows narrows 'for every input' (looked for: loops, veiled, ifaces, maps, wideKeys, modest, calm, conditions, laid).
  DERIVED. THE GIVEN ROWS OF THIS SEAT. 5 by the template 'for every input the law returns true; each argument reads behind the call as it read before'; 0 by the template 'total and deterministic' (their statements: Qxb6612380aModsTotals.lean).
  GIVEN WITH THE SEED: the statements are not yours to turn. If you find one false, say at which input.
  Laid BY PROGRAM, IN A SANDBOX (cutbox-rows.mjs): the forced cells as the released guide's own fill.sh prints them over the translation d14a05fa6488f1bf… (all of the seat's roots in one cut). By AI agents, Wed Nov 11 2026. No macro, syntax, notation, axiom, sorry.
-/
import Derived.Test.Qxb6612380aModsChecked
import GoSem.Claim
import GoSem.ClaimJoined
import GoSem.ClaimMapViews
import Derived.JoinedTies
import Derived.KernelRfl
namespace Go.Proofs.Qxb6612380aMods
/- THE CELL 'sum', in the pinned program and in every row, IS THE sha256 OF THE DUMP (.gsa) THAT Qxb6612380aModsProg.lean LOADS. Nothing in Lean hashes anything: it is a label: what it is worth is what the hold of that sum in a sandbox is worth. -/
noncomputable def Trym.pinned : Pinned := { name := "qxb6612380amods", sum := "d14a05fa6488f1bf5fffd87fc66514d88bdef2414747ecb3c0a80831a3c2f955", checked := Trym.checked }
namespace Rows
def none {H : Type} : Left H := { results := [], args := [] }

/-- 'zzlaws_pkg_task_b1.FnWholeIsTheUnboundedRangeFromZero': WHATEVER THE INPUT: true; the input reads as it did. -/
def fnWholeIsTheUnboundedRangeFromZeroSpec : ChangeSpec := { name := "fnWholeIsTheUnboundedRangeFromZero", fn := fun _ => fun
  | [d1, d2, d3, d4, d5] => { results := [.lit (.bool true)], args := [d1, d2, d3, d4, d5] }
  | _ => none }
def fnWholeIsTheUnboundedRangeFromZeroRow : OpenClaim := { program := "qxb6612380amods", sum := "d14a05fa6488f1bf5fffd87fc66514d88bdef2414747ecb3c0a80831a3c2f955", func := "example.com/sharco/sharco/zzlaws_pkg_task_b1.FnWholeIsTheUnboundedRangeFromZero", spec := "fnWholeIsTheUnboundedRangeFromZero", make := .lifted ["publicsums"], apart := false }
def FnWholeIsTheUnboundedRangeFromZeroSaid : Prop := fnWholeIsTheUnboundedRangeFromZeroRow.holds Trym.pinned (OpenSpec.ofChange fnWholeIsTheUnboundedRangeFromZeroSpec)

/-- ITS FALSE NEIGHBOUR: 'it returns false'. Refute it at one input. -/
def fnWholeIsTheUnboundedRangeFromZeroWrong : ChangeSpec := { name := "fnWholeIsTheUnboundedRangeFromZero", fn := fun _ => fun
  | [d1, d2, d3, d4, d5] => { results := [.lit (.bool false)], args := [d1, d2, d3, d4, d5] }
  | _ => none }
def FnWholeIsTheUnboundedRangeFromZeroWrongFalsely : Prop := fnWholeIsTheUnboundedRangeFromZeroRow.holds Trym.pinned (OpenSpec.ofChange fnWholeIsTheUnboundedRangeFromZeroWrong)

/-- 'zzlaws_pkg_task_b1.FnLineIsTheRecordAtItsStart': WHATEVER THE INPUT: true; the input reads as it did. -/
def fnLineIsTheRecordAtItsStartSpec : ChangeSpec := { name := "fnLineIsTheRecordAtItsStart", fn := fun _ => fun
  | [d1, d2, d3, d4] => { results := [.lit (.bool true)], args := [d1, d2, d3, d4] }
  | _ => none }
def fnLineIsTheRecordAtItsStartRow : OpenClaim := { program := "qxb6612380amods", sum := "d14a05fa6488f1bf5fffd87fc66514d88bdef2414747ecb3c0a80831a3c2f955", func := "example.com/sharco/sharco/zzlaws_pkg_task_b1.FnLineIsTheRecordAtItsStart", spec := "fnLineIsTheRecordAtItsStart", inPlace := ["internal/bytealg.IndexByte"], make := .lifted ["publicsums"], apart := false }
def FnLineIsTheRecordAtItsStartSaid : Prop := fnLineIsTheRecordAtItsStartRow.holds Trym.pinned (OpenSpec.ofChange fnLineIsTheRecordAtItsStartSpec)

/-- ITS FALSE NEIGHBOUR: 'it returns false'. Refute it at one input. -/
def fnLineIsTheRecordAtItsStartWrong : ChangeSpec := { name := "fnLineIsTheRecordAtItsStart", fn := fun _ => fun
  | [d1, d2, d3, d4] => { results := [.lit (.bool false)], args := [d1, d2, d3, d4] }
  | _ => none }
def FnLineIsTheRecordAtItsStartWrongFalsely : Prop := fnLineIsTheRecordAtItsStartRow.holds Trym.pinned (OpenSpec.ofChange fnLineIsTheRecordAtItsStartWrong)

/-- 'zzlaws_pkg_task_b1.FnLinesTileTheBuffer': WHATEVER THE INPUT: true; the input reads as it did. -/
def fnLinesTileTheBufferSpec : ChangeSpec := { name := "fnLinesTileTheBuffer", fn := fun _ => fun
  | [d] => { results := [.lit (.bool true)], args := [d] }
  | _ => none }
def fnLinesTileTheBufferRow : OpenClaim := { program := "qxb6612380amods", sum := "d14a05fa6488f1bf5fffd87fc66514d88bdef2414747ecb3c0a80831a3c2f955", func := "example.com/sharco/sharco/zzlaws_pkg_task_b1.FnLinesTileTheBuffer", spec := "fnLinesTileTheBuffer", inPlace := ["internal/bytealg.IndexByte"], make := .lifted ["publicsums"], apart := false }
def FnLinesTileTheBufferSaid : Prop := fnLinesTileTheBufferRow.holds Trym.pinned (OpenSpec.ofChange fnLinesTileTheBufferSpec)

/-- ITS FALSE NEIGHBOUR: 'it returns false'. Refute it at one input. -/
def fnLinesTileTheBufferWrong : ChangeSpec := { name := "fnLinesTileTheBuffer", fn := fun _ => fun
  | [d] => { results := [.lit (.bool false)], args := [d] }
  | _ => none }
def FnLinesTileTheBufferWrongFalsely : Prop := fnLinesTileTheBufferRow.holds Trym.pinned (OpenSpec.ofChange fnLinesTileTheBufferWrong)

/-- 'zzlaws_pkg_task_b1.FnNewScratchHoldsTmpUnderWorkDirAndName': WHATEVER THE INPUT: true; the input reads as it did. -/
def fnNewScratchHoldsTmpUnderWorkDirAndNameSpec : ChangeSpec := { name := "fnNewScratchHoldsTmpUnderWorkDirAndName", fn := fun _ => fun
  | [d1, d2] => { results := [.lit (.bool true)], args := [d1, d2] }
  | _ => none }
def fnNewScratchHoldsTmpUnderWorkDirAndNameRow : OpenClaim := { program := "qxb6612380amods", sum := "d14a05fa6488f1bf5fffd87fc66514d88bdef2414747ecb3c0a80831a3c2f955", func := "example.com/sharco/sharco/zzlaws_pkg_task_b1.FnNewScratchHoldsTmpUnderWorkDirAndName", spec := "fnNewScratchHoldsTmpUnderWorkDirAndName", inPlace := ["internal/abi.NoEscape", "internal/bytealg.MakeNoZero", "internal/bytealg.IndexByteString"], make := .lifted ["publicsums"], apart := false }
def FnNewScratchHoldsTmpUnderWorkDirAndNameSaid : Prop := fnNewScratchHoldsTmpUnderWorkDirAndNameRow.holds Trym.pinned (OpenSpec.ofChange fnNewScratchHoldsTmpUnderWorkDirAndNameSpec)

/-- ITS FALSE NEIGHBOUR: 'it returns false'. Refute it at one input. -/
def fnNewScratchHoldsTmpUnderWorkDirAndNameWrong : ChangeSpec := { name := "fnNewScratchHoldsTmpUnderWorkDirAndName", fn := fun _ => fun
  | [d1, d2] => { results := [.lit (.bool false)], args := [d1, d2] }
  | _ => none }
def FnNewScratchHoldsTmpUnderWorkDirAndNameWrongFalsely : Prop := fnNewScratchHoldsTmpUnderWorkDirAndNameRow.holds Trym.pinned (OpenSpec.ofChange fnNewScratchHoldsTmpUnderWorkDirAndNameWrong)

/-- 'zzlaws_pkg_task_b1.FnScratchesAreFreshAndNameTheirRuns': WHATEVER THE INPUT: true; the input reads as it did. -/
def fnScratchesAreFreshAndNameTheirRunsSpec : ChangeSpec := { name := "fnScratchesAreFreshAndNameTheirRuns", fn := fun _ => fun
  | [d1, d2] => { results := [.lit (.bool true)], args := [d1, d2] }
  | _ => none }
def fnScratchesAreFreshAndNameTheirRunsRow : OpenClaim := { program := "qxb6612380amods", sum := "d14a05fa6488f1bf5fffd87fc66514d88bdef2414747ecb3c0a80831a3c2f955", func := "example.com/sharco/sharco/zzlaws_pkg_task_b1.FnScratchesAreFreshAndNameTheirRuns", spec := "fnScratchesAreFreshAndNameTheirRuns", inPlace := ["internal/abi.NoEscape", "internal/bytealg.MakeNoZero", "internal/bytealg.IndexByteString"], make := .lifted ["publicsums"], apart := false }
def FnScratchesAreFreshAndNameTheirRunsSaid : Prop := fnScratchesAreFreshAndNameTheirRunsRow.holds Trym.pinned (OpenSpec.ofChange fnScratchesAreFreshAndNameTheirRunsSpec)

/-- ITS FALSE NEIGHBOUR: 'it returns false'. Refute it at one input. -/
def fnScratchesAreFreshAndNameTheirRunsWrong : ChangeSpec := { name := "fnScratchesAreFreshAndNameTheirRuns", fn := fun _ => fun
  | [d1, d2] => { results := [.lit (.bool false)], args := [d1, d2] }
  | _ => none }
def FnScratchesAreFreshAndNameTheirRunsWrongFalsely : Prop := fnScratchesAreFreshAndNameTheirRunsRow.holds Trym.pinned (OpenSpec.ofChange fnScratchesAreFreshAndNameTheirRunsWrong)

end Rows
end Go.Proofs.Qxb6612380aMods
