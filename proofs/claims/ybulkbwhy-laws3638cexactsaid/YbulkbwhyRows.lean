/-
  No cell of these rows narrows 'for every input' (looked for: loops, veiled, ifaces, maps, wideKeys, modest, calm, conditions, laid).
  DERIVED. THE GIVEN ROWS OF THIS SEAT. 2 by the template 'for every input the law returns true; each argument reads behind the call as it read before'; 0 by the template 'total and deterministic' (their statements: YbulkbwhyTotals.lean).
  GIVEN WITH THE SEED: the statements are not yours to turn. If you find one false, say at which input.
  Laid BY PROGRAM, IN A SANDBOX (cutbox-rows.mjs): the forced cells as the released guide's own fill.sh prints them over the translation 1dcd9bbb13ada483… (all of the seat's roots in one cut). By AI agents, Wed Nov 11 2026. No macro, syntax, notation, axiom, sorry.
-/
import Derived.Test.YbulkbwhyChecked
import GoSem.Claim
import GoSem.ClaimJoined
import GoSem.ClaimMapViews
import Derived.JoinedTies
import Derived.KernelRfl
namespace Go.Proofs.Ybulkbwhy
/- THE CELL 'sum', in the pinned program and in every row, IS THE sha256 OF THE DUMP (.gsa) THAT YbulkbwhyProg.lean LOADS. Nothing in Lean hashes anything: it is a label: what it is worth is what the hold of that sum in a sandbox is worth. -/
noncomputable def Yba.pinned : Pinned := { name := "ybulkbwhy", sum := "1dcd9bbb13ada4838fcaa0fb35b4cd2407759a8a5ee29cb203eb44d548a9d1ea", checked := Yba.checked }
namespace Rows
def none {H : Type} : Left H := { results := [], args := [] }

/-- 'builtin.LawS3638BCalls': WHATEVER THE INPUT: true; the input reads as it did. -/
def lawS3638BCallsSpec : ChangeSpec := { name := "lawS3638BCalls", fn := fun _ => fun
  | [d] => { results := [.lit (.bool true)], args := [d] }
  | _ => none }
def lawS3638BCallsRow : OpenClaim := { program := "ybulkbwhy", sum := "1dcd9bbb13ada4838fcaa0fb35b4cd2407759a8a5ee29cb203eb44d548a9d1ea", func := "example.com/keen-warden/keen-warden/internal/builtin.LawS3638BCalls", spec := "lawS3638BCalls", unfollowed := true, recurses := true, apart := false }
def LawS3638BCallsSaid : Prop := lawS3638BCallsRow.holds Yba.pinned (OpenSpec.ofChange lawS3638BCallsSpec)

/-- ITS FALSE NEIGHBOUR: 'it returns false'. Refute it at one input. -/
def lawS3638BCallsWrong : ChangeSpec := { name := "lawS3638BCalls", fn := fun _ => fun
  | [d] => { results := [.lit (.bool false)], args := [d] }
  | _ => none }
def LawS3638BCallsWrongFalsely : Prop := lawS3638BCallsRow.holds Yba.pinned (OpenSpec.ofChange lawS3638BCallsWrong)

/-- 'matcher.LawS3638CExact': WHATEVER THE INPUT: true; the input reads as it did. -/
def lawS3638CExactSpec : ChangeSpec := { name := "lawS3638CExact", fn := fun _ => fun
  | [d1, d2, d3, d4, d5, d6, d7, d8] => { results := [.lit (.bool true)], args := [d1, d2, d3, d4, d5, d6, d7, d8] }
  | _ => none }
def lawS3638CExactRow : OpenClaim := { program := "ybulkbwhy", sum := "1dcd9bbb13ada4838fcaa0fb35b4cd2407759a8a5ee29cb203eb44d548a9d1ea", func := "example.com/keen-warden/keen-warden/internal/matcher.LawS3638CExact", spec := "lawS3638CExact", inPlace := ["math.Float64bits", "math.archTrunc", "math.Float64frombits", "math/big.lshVU"], apart := false }
def LawS3638CExactSaid : Prop := lawS3638CExactRow.holds Yba.pinned (OpenSpec.ofChange lawS3638CExactSpec)

/-- ITS FALSE NEIGHBOUR: 'it returns false'. Refute it at one input. -/
def lawS3638CExactWrong : ChangeSpec := { name := "lawS3638CExact", fn := fun _ => fun
  | [d1, d2, d3, d4, d5, d6, d7, d8] => { results := [.lit (.bool false)], args := [d1, d2, d3, d4, d5, d6, d7, d8] }
  | _ => none }
def LawS3638CExactWrongFalsely : Prop := lawS3638CExactRow.holds Yba.pinned (OpenSpec.ofChange lawS3638CExactWrong)

end Rows
end Go.Proofs.Ybulkbwhy
