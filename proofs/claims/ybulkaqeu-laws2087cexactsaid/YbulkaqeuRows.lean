/-
  No cell of these rows narrows 'for every input' (looked for: loops, veiled, ifaces, maps, wideKeys, modest, calm, conditions, laid).
  DERIVED. THE GIVEN ROWS OF THIS SEAT. 2 by the template 'for every input the law returns true; each argument reads behind the call as it read before'; 0 by the template 'total and deterministic' (their statements: YbulkaqeuTotals.lean).
  GIVEN WITH THE SEED: the statements are not yours to turn. If you find one false, say at which input.
  Laid BY PROGRAM, IN A SANDBOX (cutbox-rows.mjs): the forced cells as the released guide's own fill.sh prints them over the translation f294b6b5ab6ca385… (all of the seat's roots in one cut). By AI agents, Wed Nov 11 2026. No macro, syntax, notation, axiom, sorry.
-/
import Derived.Test.YbulkaqeuChecked
import GoSem.Claim
import GoSem.ClaimJoined
import GoSem.ClaimMapViews
import Derived.JoinedTies
import Derived.KernelRfl
namespace Go.Proofs.Ybulkaqeu
/- THE CELL 'sum', in the pinned program and in every row, IS THE sha256 OF THE DUMP (.gsa) THAT YbulkaqeuProg.lean LOADS. Nothing in Lean hashes anything: it is a label: what it is worth is what the hold of that sum in a sandbox is worth. -/
noncomputable def Yba.pinned : Pinned := { name := "ybulkaqeu", sum := "f294b6b5ab6ca38516a74552ad39ad4230742cd6e0edd877c986d5c2e3e8cc91", checked := Yba.checked }
namespace Rows
def none {H : Type} : Left H := { results := [], args := [] }

/-- 'bitcoin.LawS2087CExact': WHATEVER THE INPUT: true; the input reads as it did. -/
def lawS2087CExactSpec : ChangeSpec := { name := "lawS2087CExact", fn := fun _ => fun
  | [d1, d2, d3, d4, d5, d6] => { results := [.lit (.bool true)], args := [d1, d2, d3, d4, d5, d6] }
  | _ => none }
def lawS2087CExactRow : OpenClaim := { program := "ybulkaqeu", sum := "f294b6b5ab6ca38516a74552ad39ad4230742cd6e0edd877c986d5c2e3e8cc91", func := "example.com/headframe/headframe/internal/bitcoin.LawS2087CExact", spec := "lawS2087CExact", named := ["encoding/binary.LittleEndian"], apart := false }
def LawS2087CExactSaid : Prop := lawS2087CExactRow.holds Yba.pinned (OpenSpec.ofChange lawS2087CExactSpec)

/-- ITS FALSE NEIGHBOUR: 'it returns false'. Refute it at one input. -/
def lawS2087CExactWrong : ChangeSpec := { name := "lawS2087CExact", fn := fun _ => fun
  | [d1, d2, d3, d4, d5, d6] => { results := [.lit (.bool false)], args := [d1, d2, d3, d4, d5, d6] }
  | _ => none }
def LawS2087CExactWrongFalsely : Prop := lawS2087CExactRow.holds Yba.pinned (OpenSpec.ofChange lawS2087CExactWrong)

/-- 'bitcoin.LawS2087CScriptLen': WHATEVER THE INPUT: true; the input reads as it did. -/
def lawS2087CScriptLenSpec : ChangeSpec := { name := "lawS2087CScriptLen", fn := fun _ => fun
  | [d1, d2, d3, d4] => { results := [.lit (.bool true)], args := [d1, d2, d3, d4] }
  | _ => none }
def lawS2087CScriptLenRow : OpenClaim := { program := "ybulkaqeu", sum := "f294b6b5ab6ca38516a74552ad39ad4230742cd6e0edd877c986d5c2e3e8cc91", func := "example.com/headframe/headframe/internal/bitcoin.LawS2087CScriptLen", spec := "lawS2087CScriptLen", named := ["encoding/binary.LittleEndian"], apart := false }
def LawS2087CScriptLenSaid : Prop := lawS2087CScriptLenRow.holds Yba.pinned (OpenSpec.ofChange lawS2087CScriptLenSpec)

/-- ITS FALSE NEIGHBOUR: 'it returns false'. Refute it at one input. -/
def lawS2087CScriptLenWrong : ChangeSpec := { name := "lawS2087CScriptLen", fn := fun _ => fun
  | [d1, d2, d3, d4] => { results := [.lit (.bool false)], args := [d1, d2, d3, d4] }
  | _ => none }
def LawS2087CScriptLenWrongFalsely : Prop := lawS2087CScriptLenRow.holds Yba.pinned (OpenSpec.ofChange lawS2087CScriptLenWrong)

end Rows
end Go.Proofs.Ybulkaqeu
