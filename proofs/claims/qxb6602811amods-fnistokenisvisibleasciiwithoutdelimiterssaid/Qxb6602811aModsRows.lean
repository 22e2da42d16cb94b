/-
  No cell of these rows narrows 'for every input' (looked for: loops, veiled, ifaces, maps, wideKeys, modest, calm, conditions, laid).
  DERIVED. THE GIVEN ROWS OF THIS SEAT. 2 by the template 'for every input the law returns true; each argument reads behind the call as it read before'; 0 by the template 'total and deterministic' (their statements: Qxb6602811aModsTotals.lean).
  GIVEN WITH THE SEED: the statements are not yours to turn. If you find one false, say at which input.
  Laid BY PROGRAM, IN A SANDBOX (cutbox-rows.mjs): the forced cells as the released guide's own fill.sh prints them over the translation 4df296a2f4136a27… (all of the seat's roots in one cut). By AI agents, Wed Nov 11 2026. No macro, syntax, notation, axiom, sorry.
-/
import Derived.Test.Qxb6602811aModsChecked
import GoSem.Claim
import GoSem.ClaimJoined
import GoSem.ClaimMapViews
import Derived.JoinedTies
import Derived.KernelRfl
namespace Go.Proofs.Qxb6602811aMods
/- THE CELL 'sum', in the pinned program and in every row, IS THE sha256 OF THE DUMP (.gsa) THAT Qxb6602811aModsProg.lean LOADS. Nothing in Lean hashes anything: it is a label: what it is worth is what the hold of that sum in a sandbox is worth. -/
noncomputable def Trym.pinned : Pinned := { name := "qxb6602811amods", sum := "4df296a2f4136a276eebd3a298d80ccedbd604e86b15c1d53d9b1b94008258a8", checked := Trym.checked }
namespace Rows
def none {H : Type} : Left H := { results := [], args := [] }

/-- 'zzlaws_root_b1.FnIsTokenIsVisibleASCIIWithoutDelimiters': WHATEVER THE INPUT: true; the input reads as it did. -/
def fnIsTokenIsVisibleASCIIWithoutDelimitersSpec : ChangeSpec := { name := "fnIsTokenIsVisibleASCIIWithoutDelimiters", fn := fun _ => fun
  | [d] => { results := [.lit (.bool true)], args := [d] }
  | _ => none }
def fnIsTokenIsVisibleASCIIWithoutDelimitersRow : OpenClaim := { program := "qxb6602811amods", sum := "4df296a2f4136a276eebd3a298d80ccedbd604e86b15c1d53d9b1b94008258a8", func := "example.com/nonce/nonce/zzlaws_root_b1.FnIsTokenIsVisibleASCIIWithoutDelimiters", spec := "fnIsTokenIsVisibleASCIIWithoutDelimiters", inPlace := ["internal/bytealg.IndexByteString"], make := .lifted ["publicsums"], apart := false }
def FnIsTokenIsVisibleASCIIWithoutDelimitersSaid : Prop := fnIsTokenIsVisibleASCIIWithoutDelimitersRow.holds Trym.pinned (OpenSpec.ofChange fnIsTokenIsVisibleASCIIWithoutDelimitersSpec)

/-- ITS FALSE NEIGHBOUR: 'it returns false'. Refute it at one input. -/
def fnIsTokenIsVisibleASCIIWithoutDelimitersWrong : ChangeSpec := { name := "fnIsTokenIsVisibleASCIIWithoutDelimiters", fn := fun _ => fun
  | [d] => { results := [.lit (.bool false)], args := [d] }
  | _ => none }
def FnIsTokenIsVisibleASCIIWithoutDelimitersWrongFalsely : Prop := fnIsTokenIsVisibleASCIIWithoutDelimitersRow.holds Trym.pinned (OpenSpec.ofChange fnIsTokenIsVisibleASCIIWithoutDelimitersWrong)

/-- 'zzlaws_root_b1.FnIsTokenHoldsOfEachPieceOfACut': WHATEVER THE INPUT: true; the input reads as it did. -/
def fnIsTokenHoldsOfEachPieceOfACutSpec : ChangeSpec := { name := "fnIsTokenHoldsOfEachPieceOfACut", fn := fun _ => fun
  | [d1, d2] => { results := [.lit (.bool true)], args := [d1, d2] }
  | _ => none }
def fnIsTokenHoldsOfEachPieceOfACutRow : OpenClaim := { program := "qxb6602811amods", sum := "4df296a2f4136a276eebd3a298d80ccedbd604e86b15c1d53d9b1b94008258a8", func := "example.com/nonce/nonce/zzlaws_root_b1.FnIsTokenHoldsOfEachPieceOfACut", spec := "fnIsTokenHoldsOfEachPieceOfACut", inPlace := ["internal/bytealg.IndexByteString"], make := .lifted ["publicsums"], apart := false }
def FnIsTokenHoldsOfEachPieceOfACutSaid : Prop := fnIsTokenHoldsOfEachPieceOfACutRow.holds Trym.pinned (OpenSpec.ofChange fnIsTokenHoldsOfEachPieceOfACutSpec)

/-- ITS FALSE NEIGHBOUR: 'it returns false'. Refute it at one input. -/
def fnIsTokenHoldsOfEachPieceOfACutWrong : ChangeSpec := { name := "fnIsTokenHoldsOfEachPieceOfACut", fn := fun _ => fun
  | [d1, d2] => { results := [.lit (.bool false)], args := [d1, d2] }
  | _ => none }
def FnIsTokenHoldsOfEachPieceOfACutWrongFalsely : Prop := fnIsTokenHoldsOfEachPieceOfACutRow.holds Trym.pinned (OpenSpec.ofChange fnIsTokenHoldsOfEachPieceOfACutWrong)

end Rows
end Go.Proofs.Qxb6602811aMods
