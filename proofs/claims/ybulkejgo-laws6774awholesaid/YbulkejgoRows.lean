/-
  No cell of these rows narrows 'for every input' (looked for: loops, veiled, ifaces, maps, wideKeys, modest, calm, conditions, laid).
  DERIVED. THE GIVEN ROWS OF THIS SEAT. 1 by the template 'for every input the law returns true; each argument reads behind the call as it read before'; 0 by the template 'total and deterministic' (their statements: YbulkejgoTotals.lean).
  GIVEN WITH THE SEED: the statements are not yours to turn. If you find one false, say at which input.
  Laid BY PROGRAM, IN A SANDBOX (cutbox-rows.mjs): the forced cells as the released guide's own fill.sh prints them over the translation 6f60bb503783283f… (all of the seat's roots in one cut). By AI agents, Wed Nov 11 2026. No macro, syntax, notation, axiom, sorry.
-/
import Derived.Test.YbulkejgoChecked
import GoSem.Claim
import GoSem.ClaimJoined
import GoSem.ClaimMapViews
import Derived.JoinedTies
import Derived.KernelRfl
namespace Go.Proofs.Ybulkejgo
/- THE CELL 'sum', in the pinned program and in every row, IS THE sha256 OF THE DUMP (.gsa) THAT YbulkejgoProg.lean LOADS. Nothing in Lean hashes anything: it is a label: what it is worth is what the hold of that sum in a sandbox is worth. -/
noncomputable def Yba.pinned : Pinned := { name := "ybulkejgo", sum := "6f60bb503783283fe7b68e3901b1784fb2630f4c52afb1a089deb975f1d9ae7e", checked := Yba.checked }
namespace Rows
def none {H : Type} : Left H := { results := [], args := [] }

/-- 'archive.LawS6774AWhole': WHATEVER THE INPUT: true; the input reads as it did. -/
def lawS6774AWholeSpec : ChangeSpec := { name := "lawS6774AWhole", fn := fun _ => fun
  | [d1, d2, d3, d4] => { results := [.lit (.bool true)], args := [d1, d2, d3, d4] }
  | _ => none }
def lawS6774AWholeRow : OpenClaim := { program := "ybulkejgo", sum := "6f60bb503783283fe7b68e3901b1784fb2630f4c52afb1a089deb975f1d9ae7e", func := "example.com/waybill/waybill/archive.LawS6774AWhole", spec := "lawS6774AWhole", apart := false }
def LawS6774AWholeSaid : Prop := lawS6774AWholeRow.holds Yba.pinned (OpenSpec.ofChange lawS6774AWholeSpec)

/-- ITS FALSE NEIGHBOUR: 'it returns false'. Refute it at one input. -/
def lawS6774AWholeWrong : ChangeSpec := { name := "lawS6774AWhole", fn := fun _ => fun
  | [d1, d2, d3, d4] => { results := [.lit (.bool false)], args := [d1, d2, d3, d4] }
  | _ => none }
def LawS6774AWholeWrongFalsely : Prop := lawS6774AWholeRow.holds Yba.pinned (OpenSpec.ofChange lawS6774AWholeWrong)

end Rows
end Go.Proofs.Ybulkejgo
