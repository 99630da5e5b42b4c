/-
  No cell of these rows narrows 'for every input' (looked for: loops, veiled, ifaces, maps, wideKeys, modest, calm, conditions, laid).
  DERIVED. THE GIVEN ROWS OF THIS SEAT. 2 by the template 'for every input the law returns true; each argument reads behind the call as it read before'; 0 by the template 'total and deterministic' (their statements: YbulkbwcoTotals.lean).
  GIVEN WITH THE SEED: the statements are not yours to turn. If you find one false, say at which input.
  Laid BY PROGRAM, IN A SANDBOX (cutbox-rows.mjs): the forced cells as the released guide's own fill.sh prints them over the translation 2ed2063a55108bcf… (all of the seat's roots in one cut). By AI agents, Wed Nov 11 2026. No macro, syntax, notation, axiom, sorry.
-/
import Derived.Test.YbulkbwcoChecked
import GoSem.Claim
import GoSem.ClaimJoined
import GoSem.ClaimMapViews
import Derived.JoinedTies
import Derived.KernelRfl
namespace Go.Proofs.Ybulkbwco
/- THE CELL 'sum', in the pinned program and in every row, IS THE sha256 OF THE DUMP (.gsa) THAT YbulkbwcoProg.lean LOADS. Nothing in Lean hashes anything: it is a label: what it is worth is what the hold of that sum in a sandbox is worth. -/
noncomputable def Yba.pinned : Pinned := { name := "ybulkbwco", sum := "2ed2063a55108bcf83054fa21c8c89fa79631c17f49adf2e99d2513e9f0e149b", checked := Yba.checked }
namespace Rows
def none {H : Type} : Left H := { results := [], args := [] }

/-- 'tallyrate.LawS3628CExact': WHATEVER THE INPUT: true; the input reads as it did. -/
def lawS3628CExactSpec : ChangeSpec := { name := "lawS3628CExact", fn := fun _ => fun
  | [d1, d2, d3, d4] => { results := [.lit (.bool true)], args := [d1, d2, d3, d4] }
  | _ => none }
def lawS3628CExactRow : OpenClaim := { program := "ybulkbwco", sum := "2ed2063a55108bcf83054fa21c8c89fa79631c17f49adf2e99d2513e9f0e149b", func := "example.com/tallyrate/tallyrate.LawS3628CExact", spec := "lawS3628CExact", inPlace := ["math/big.addVV", "math/bits.Add64", "math/big.subVV", "math/bits.Sub64"], recurses := true, apart := false }
def LawS3628CExactSaid : Prop := lawS3628CExactRow.holds Yba.pinned (OpenSpec.ofChange lawS3628CExactSpec)

/-- ITS FALSE NEIGHBOUR: 'it returns false'. Refute it at one input. -/
def lawS3628CExactWrong : ChangeSpec := { name := "lawS3628CExact", fn := fun _ => fun
  | [d1, d2, d3, d4] => { results := [.lit (.bool false)], args := [d1, d2, d3, d4] }
  | _ => none }
def LawS3628CExactWrongFalsely : Prop := lawS3628CExactRow.holds Yba.pinned (OpenSpec.ofChange lawS3628CExactWrong)

/-- 'tallyrate.LawS3628CKept': WHATEVER THE INPUT: true; the input reads as it did. -/
def lawS3628CKeptSpec : ChangeSpec := { name := "lawS3628CKept", fn := fun _ => fun
  | [d1, d2, d3, d4] => { results := [.lit (.bool true)], args := [d1, d2, d3, d4] }
  | _ => none }
def lawS3628CKeptRow : OpenClaim := { program := "ybulkbwco", sum := "2ed2063a55108bcf83054fa21c8c89fa79631c17f49adf2e99d2513e9f0e149b", func := "example.com/tallyrate/tallyrate.LawS3628CKept", spec := "lawS3628CKept", inPlace := ["math/big.addVV", "math/bits.Add64", "math/big.subVV", "math/bits.Sub64"], recurses := true, apart := false }
def LawS3628CKeptSaid : Prop := lawS3628CKeptRow.holds Yba.pinned (OpenSpec.ofChange lawS3628CKeptSpec)

/-- ITS FALSE NEIGHBOUR: 'it returns false'. Refute it at one input. -/
def lawS3628CKeptWrong : ChangeSpec := { name := "lawS3628CKept", fn := fun _ => fun
  | [d1, d2, d3, d4] => { results := [.lit (.bool false)], args := [d1, d2, d3, d4] }
  | _ => none }
def LawS3628CKeptWrongFalsely : Prop := lawS3628CKeptRow.holds Yba.pinned (OpenSpec.ofChange lawS3628CKeptWrong)

end Rows
end Go.Proofs.Ybulkbwco
