/-
  No cell of these rows narrows 'for every input' (looked for: loops, veiled, ifaces, maps, wideKeys, modest, calm, conditions, laid).
  DERIVED. THE GIVEN ROWS OF THIS SEAT. 2 by the template 'for every input the law returns true; each argument reads behind the call as it read before'; 0 by the template 'total and deterministic' (their statements: YbulkbwayTotals.lean).
  GIVEN WITH THE SEED: the statements are not yours to turn. If you find one false, say at which input.
  Laid BY PROGRAM, IN A SANDBOX (cutbox-rows.mjs): the forced cells as the released guide's own fill.sh prints them over the translation c25d59d33113368d… (all of the seat's roots in one cut). By AI agents, Wed Nov 11 2026. No macro, syntax, notation, axiom, sorry.
-/
import Derived.Test.YbulkbwayChecked
import GoSem.Claim
import GoSem.ClaimJoined
import GoSem.ClaimMapViews
import Derived.JoinedTies
import Derived.KernelRfl
namespace Go.Proofs.Ybulkbway
/- THE CELL 'sum', in the pinned program and in every row, IS THE sha256 OF THE DUMP (.gsa) THAT YbulkbwayProg.lean LOADS. Nothing in Lean hashes anything: it is a label: what it is worth is what the hold of that sum in a sandbox is worth. -/
noncomputable def Yba.pinned : Pinned := { name := "ybulkbway", sum := "c25d59d33113368de5899272e0cc7f479f65ec665cd0e46afc9f8582da0df586", checked := Yba.checked }
namespace Rows
def none {H : Type} : Left H := { results := [], args := [] }

/-- 'daemon.LawS3625AModel': WHATEVER THE INPUT: true; the input reads as it did. -/
def lawS3625AModelSpec : ChangeSpec := { name := "lawS3625AModel", fn := fun _ => fun
  | [d1, d2, d3, d4, d5, d6, d7, d8] => { results := [.lit (.bool true)], args := [d1, d2, d3, d4, d5, d6, d7, d8] }
  | _ => none }
def lawS3625AModelRow : OpenClaim := { program := "ybulkbway", sum := "c25d59d33113368de5899272e0cc7f479f65ec665cd0e46afc9f8582da0df586", func := "example.com/quorate/quorate/internal/daemon.LawS3625AModel", spec := "lawS3625AModel", unfollowed := true, recurses := true, apart := false }
def LawS3625AModelSaid : Prop := lawS3625AModelRow.holds Yba.pinned (OpenSpec.ofChange lawS3625AModelSpec)

/-- ITS FALSE NEIGHBOUR: 'it returns false'. Refute it at one input. -/
def lawS3625AModelWrong : ChangeSpec := { name := "lawS3625AModel", fn := fun _ => fun
  | [d1, d2, d3, d4, d5, d6, d7, d8] => { results := [.lit (.bool false)], args := [d1, d2, d3, d4, d5, d6, d7, d8] }
  | _ => none }
def LawS3625AModelWrongFalsely : Prop := lawS3625AModelRow.holds Yba.pinned (OpenSpec.ofChange lawS3625AModelWrong)

/-- 'daemon.LawS3625AOrder': WHATEVER THE INPUT: true; the input reads as it did. -/
def lawS3625AOrderSpec : ChangeSpec := { name := "lawS3625AOrder", fn := fun _ => fun
  | [d1, d2, d3, d4, d5, d6, d7] => { results := [.lit (.bool true)], args := [d1, d2, d3, d4, d5, d6, d7] }
  | _ => none }
def lawS3625AOrderRow : OpenClaim := { program := "ybulkbway", sum := "c25d59d33113368de5899272e0cc7f479f65ec665cd0e46afc9f8582da0df586", func := "example.com/quorate/quorate/internal/daemon.LawS3625AOrder", spec := "lawS3625AOrder", unfollowed := true, recurses := true, apart := false }
def LawS3625AOrderSaid : Prop := lawS3625AOrderRow.holds Yba.pinned (OpenSpec.ofChange lawS3625AOrderSpec)

/-- ITS FALSE NEIGHBOUR: 'it returns false'. Refute it at one input. -/
def lawS3625AOrderWrong : ChangeSpec := { name := "lawS3625AOrder", fn := fun _ => fun
  | [d1, d2, d3, d4, d5, d6, d7] => { results := [.lit (.bool false)], args := [d1, d2, d3, d4, d5, d6, d7] }
  | _ => none }
def LawS3625AOrderWrongFalsely : Prop := lawS3625AOrderRow.holds Yba.pinned (OpenSpec.ofChange lawS3625AOrderWrong)

end Rows
end Go.Proofs.Ybulkbway
