/-
  No cell of these rows narrows 'for every input' (looked for: loops, veiled, ifaces, maps, wideKeys, modest, calm, conditions, laid).
  DERIVED. THE GIVEN ROWS OF THIS SEAT. 3 by the template 'for every input the law returns true; each argument reads behind the call as it read before'; 0 by the template 'total and deterministic' (their statements: YbulkbwdqTotals.lean).
  GIVEN WITH THE SEED: the statements are not yours to turn. If you find one false, say at which input.
  Laid BY PROGRAM, IN A SANDBOX (cutbox-rows.mjs): the forced cells as the released guide's own fill.sh prints them over the translation 6ed246b715968be4… (all of the seat's roots in one cut). By AI agents, Wed Nov 11 2026. No macro, syntax, notation, axiom, sorry.
-/
import Derived.Test.YbulkbwdqChecked
import GoSem.Claim
import GoSem.ClaimJoined
import GoSem.ClaimMapViews
import Derived.JoinedTies
import Derived.KernelRfl
namespace Go.Proofs.Ybulkbwdq
/- THE CELL 'sum', in the pinned program and in every row, IS THE sha256 OF THE DUMP (.gsa) THAT YbulkbwdqProg.lean LOADS. Nothing in Lean hashes anything: it is a label: what it is worth is what the hold of that sum in a sandbox is worth. -/
noncomputable def Yba.pinned : Pinned := { name := "ybulkbwdq", sum := "6ed246b715968be4994ca8f6b9e59e1860897a6e947fe9ec68c8bf7b459f2f92", checked := Yba.checked }
namespace Rows
def none {H : Type} : Left H := { results := [], args := [] }

/-- 'tagmata.LawS3630ARenumber': WHATEVER THE INPUT: true; the input reads as it did. -/
def lawS3630ARenumberSpec : ChangeSpec := { name := "lawS3630ARenumber", fn := fun _ => fun
  | [d1, d2, d3] => { results := [.lit (.bool true)], args := [d1, d2, d3] }
  | _ => none }
def lawS3630ARenumberRow : OpenClaim := { program := "ybulkbwdq", sum := "6ed246b715968be4994ca8f6b9e59e1860897a6e947fe9ec68c8bf7b459f2f92", func := "example.com/tagmata/tagmata.LawS3630ARenumber", spec := "lawS3630ARenumber", apart := false }
def LawS3630ARenumberSaid : Prop := lawS3630ARenumberRow.holds Yba.pinned (OpenSpec.ofChange lawS3630ARenumberSpec)

/-- ITS FALSE NEIGHBOUR: 'it returns false'. Refute it at one input. -/
def lawS3630ARenumberWrong : ChangeSpec := { name := "lawS3630ARenumber", fn := fun _ => fun
  | [d1, d2, d3] => { results := [.lit (.bool false)], args := [d1, d2, d3] }
  | _ => none }
def LawS3630ARenumberWrongFalsely : Prop := lawS3630ARenumberRow.holds Yba.pinned (OpenSpec.ofChange lawS3630ARenumberWrong)

/-- 'tagmata.LawS3630CExact': WHATEVER THE INPUT: true; the input reads as it did. -/
def lawS3630CExactSpec : ChangeSpec := { name := "lawS3630CExact", fn := fun _ => fun
  | [d] => { results := [.lit (.bool true)], args := [d] }
  | _ => none }
def lawS3630CExactRow : OpenClaim := { program := "ybulkbwdq", sum := "6ed246b715968be4994ca8f6b9e59e1860897a6e947fe9ec68c8bf7b459f2f92", func := "example.com/tagmata/tagmata.LawS3630CExact", spec := "lawS3630CExact", apart := false }
def LawS3630CExactSaid : Prop := lawS3630CExactRow.holds Yba.pinned (OpenSpec.ofChange lawS3630CExactSpec)

/-- ITS FALSE NEIGHBOUR: 'it returns false'. Refute it at one input. -/
def lawS3630CExactWrong : ChangeSpec := { name := "lawS3630CExact", fn := fun _ => fun
  | [d] => { results := [.lit (.bool false)], args := [d] }
  | _ => none }
def LawS3630CExactWrongFalsely : Prop := lawS3630CExactRow.holds Yba.pinned (OpenSpec.ofChange lawS3630CExactWrong)

/-- 'tagmata.LawS3630CAllBytes': WHATEVER THE INPUT: true; the input reads as it did. -/
def lawS3630CAllBytesSpec : ChangeSpec := { name := "lawS3630CAllBytes", fn := fun _ => fun
  | [] => { results := [.lit (.bool true)], args := [] }
  | _ => none }
def lawS3630CAllBytesRow : OpenClaim := { program := "ybulkbwdq", sum := "6ed246b715968be4994ca8f6b9e59e1860897a6e947fe9ec68c8bf7b459f2f92", func := "example.com/tagmata/tagmata.LawS3630CAllBytes", spec := "lawS3630CAllBytes", apart := false }
def LawS3630CAllBytesSaid : Prop := lawS3630CAllBytesRow.holds Yba.pinned (OpenSpec.ofChange lawS3630CAllBytesSpec)

/-- ITS FALSE NEIGHBOUR: 'it returns false'. Refute it at one input. -/
def lawS3630CAllBytesWrong : ChangeSpec := { name := "lawS3630CAllBytes", fn := fun _ => fun
  | [] => { results := [.lit (.bool false)], args := [] }
  | _ => none }
def LawS3630CAllBytesWrongFalsely : Prop := lawS3630CAllBytesRow.holds Yba.pinned (OpenSpec.ofChange lawS3630CAllBytesWrong)

end Rows
end Go.Proofs.Ybulkbwdq
