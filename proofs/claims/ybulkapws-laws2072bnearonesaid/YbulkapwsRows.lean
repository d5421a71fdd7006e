/-
  No cell of these rows narrows 'for every input' (looked for: loops, veiled, ifaces, maps, wideKeys, modest, calm, conditions, laid).
  DERIVED. THE GIVEN ROWS OF THIS SEAT. 4 by the template 'for every input the law returns true; each argument reads behind the call as it read before'; 0 by the template 'total and deterministic' (their statements: YbulkapwsTotals.lean).
  GIVEN WITH THE SEED: the statements are not yours to turn. If you find one false, say at which input.
  Laid BY PROGRAM, IN A SANDBOX (cutbox-rows.mjs): the forced cells as the released guide's own fill.sh prints them over the translation f1b89317c17bdcf7… (all of the seat's roots in one cut). By AI agents, Wed Nov 11 2026. No macro, syntax, notation, axiom, sorry.
-/
import Derived.Test.YbulkapwsChecked
import GoSem.Claim
import GoSem.ClaimJoined
import GoSem.ClaimMapViews
import Derived.JoinedTies
import Derived.KernelRfl
namespace Go.Proofs.Ybulkapws
/- THE CELL 'sum', in the pinned program and in every row, IS THE sha256 OF THE DUMP (.gsa) THAT YbulkapwsProg.lean LOADS. Nothing in Lean hashes anything: it is a label: what it is worth is what the hold of that sum in a sandbox is worth. -/
noncomputable def Yba.pinned : Pinned := { name := "ybulkapws", sum := "f1b89317c17bdcf7206f9b3f7eadde4e46066402115d3711e3469670aa708dc2", checked := Yba.checked }
namespace Rows
def none {H : Type} : Left H := { results := [], args := [] }

/-- 'apply.LawS2072BCases': WHATEVER THE INPUT: true; the input reads as it did. -/
def lawS2072BCasesSpec : ChangeSpec := { name := "lawS2072BCases", fn := fun _ => fun
  | [d1, d2, d3] => { results := [.lit (.bool true)], args := [d1, d2, d3] }
  | _ => none }
def lawS2072BCasesRow : OpenClaim := { program := "ybulkapws", sum := "f1b89317c17bdcf7206f9b3f7eadde4e46066402115d3711e3469670aa708dc2", func := "example.com/forkwright/forkwright/internal/apply.LawS2072BCases", spec := "lawS2072BCases", apart := false }
def LawS2072BCasesSaid : Prop := lawS2072BCasesRow.holds Yba.pinned (OpenSpec.ofChange lawS2072BCasesSpec)

/-- ITS FALSE NEIGHBOUR: 'it returns false'. Refute it at one input. -/
def lawS2072BCasesWrong : ChangeSpec := { name := "lawS2072BCases", fn := fun _ => fun
  | [d1, d2, d3] => { results := [.lit (.bool false)], args := [d1, d2, d3] }
  | _ => none }
def LawS2072BCasesWrongFalsely : Prop := lawS2072BCasesRow.holds Yba.pinned (OpenSpec.ofChange lawS2072BCasesWrong)

/-- 'apply.LawS2072BNearOne': WHATEVER THE INPUT: true; the input reads as it did. -/
def lawS2072BNearOneSpec : ChangeSpec := { name := "lawS2072BNearOne", fn := fun _ => fun
  | [d] => { results := [.lit (.bool true)], args := [d] }
  | _ => none }
def lawS2072BNearOneRow : OpenClaim := { program := "ybulkapws", sum := "f1b89317c17bdcf7206f9b3f7eadde4e46066402115d3711e3469670aa708dc2", func := "example.com/forkwright/forkwright/internal/apply.LawS2072BNearOne", spec := "lawS2072BNearOne", apart := false }
def LawS2072BNearOneSaid : Prop := lawS2072BNearOneRow.holds Yba.pinned (OpenSpec.ofChange lawS2072BNearOneSpec)

/-- ITS FALSE NEIGHBOUR: 'it returns false'. Refute it at one input. -/
def lawS2072BNearOneWrong : ChangeSpec := { name := "lawS2072BNearOne", fn := fun _ => fun
  | [d] => { results := [.lit (.bool false)], args := [d] }
  | _ => none }
def LawS2072BNearOneWrongFalsely : Prop := lawS2072BNearOneRow.holds Yba.pinned (OpenSpec.ofChange lawS2072BNearOneWrong)

/-- 'check.LawS2072CLine': WHATEVER THE INPUT: true; the input reads as it did. -/
def lawS2072CLineSpec : ChangeSpec := { name := "lawS2072CLine", fn := fun _ => fun
  | [d1, d2, d3] => { results := [.lit (.bool true)], args := [d1, d2, d3] }
  | _ => none }
def lawS2072CLineRow : OpenClaim := { program := "ybulkapws", sum := "f1b89317c17bdcf7206f9b3f7eadde4e46066402115d3711e3469670aa708dc2", func := "example.com/forkwright/forkwright/internal/check.LawS2072CLine", spec := "lawS2072CLine", inPlace := ["internal/bytealg.Count", "internal/bytealg.IndexByte", "internal/bytealg.Index"], named := ["internal/bytealg.MaxLen"], apart := false }
def LawS2072CLineSaid : Prop := lawS2072CLineRow.holds Yba.pinned (OpenSpec.ofChange lawS2072CLineSpec)

/-- ITS FALSE NEIGHBOUR: 'it returns false'. Refute it at one input. -/
def lawS2072CLineWrong : ChangeSpec := { name := "lawS2072CLine", fn := fun _ => fun
  | [d1, d2, d3] => { results := [.lit (.bool false)], args := [d1, d2, d3] }
  | _ => none }
def LawS2072CLineWrongFalsely : Prop := lawS2072CLineRow.holds Yba.pinned (OpenSpec.ofChange lawS2072CLineWrong)

/-- 'check.LawS2072CMonotone': WHATEVER THE INPUT: true; the input reads as it did. -/
def lawS2072CMonotoneSpec : ChangeSpec := { name := "lawS2072CMonotone", fn := fun _ => fun
  | [d1, d2, d3] => { results := [.lit (.bool true)], args := [d1, d2, d3] }
  | _ => none }
def lawS2072CMonotoneRow : OpenClaim := { program := "ybulkapws", sum := "f1b89317c17bdcf7206f9b3f7eadde4e46066402115d3711e3469670aa708dc2", func := "example.com/forkwright/forkwright/internal/check.LawS2072CMonotone", spec := "lawS2072CMonotone", inPlace := ["internal/bytealg.Count", "internal/bytealg.IndexByte", "internal/bytealg.Index"], named := ["internal/bytealg.MaxLen"], apart := false }
def LawS2072CMonotoneSaid : Prop := lawS2072CMonotoneRow.holds Yba.pinned (OpenSpec.ofChange lawS2072CMonotoneSpec)

/-- ITS FALSE NEIGHBOUR: 'it returns false'. Refute it at one input. -/
def lawS2072CMonotoneWrong : ChangeSpec := { name := "lawS2072CMonotone", fn := fun _ => fun
  | [d1, d2, d3] => { results := [.lit (.bool false)], args := [d1, d2, d3] }
  | _ => none }
def LawS2072CMonotoneWrongFalsely : Prop := lawS2072CMonotoneRow.holds Yba.pinned (OpenSpec.ofChange lawS2072CMonotoneWrong)

end Rows
end Go.Proofs.Ybulkapws
