/-
  No cell of these rows narrows 'for every input' (looked for: loops, veiled, ifaces, maps, wideKeys, modest, calm, conditions, laid).
  DERIVED. THE GIVEN ROWS OF THIS SEAT. 2 by the template 'for every input the law returns true; each argument reads behind the call as it read before'; 0 by the template 'total and deterministic' (their statements: YbulkapuoTotals.lean).
  GIVEN WITH THE SEED: the statements are not yours to turn. If you find one false, say at which input.
  Laid BY PROGRAM, IN A SANDBOX (cutbox-rows.mjs): the forced cells as the released guide's own fill.sh prints them over the translation bbf124da5e8d4f4c… (all of the seat's roots in one cut). By AI agents, Wed Nov 11 2026. No macro, syntax, notation, axiom, sorry.
-/
import Derived.Test.YbulkapuoChecked
import GoSem.Claim
import GoSem.ClaimJoined
import GoSem.ClaimMapViews
import Derived.JoinedTies
import Derived.KernelRfl
namespace Go.Proofs.Ybulkapuo
/- THE CELL 'sum', in the pinned program and in every row, IS THE sha256 OF THE DUMP (.gsa) THAT YbulkapuoProg.lean LOADS. Nothing in Lean hashes anything: it is a label: what it is worth is what the hold of that sum in a sandbox is worth. -/
noncomputable def Yba.pinned : Pinned := { name := "ybulkapuo", sum := "bbf124da5e8d4f4c58f44d3ecc9d72fb924ee5eb26c206bac662beb28e04d614", checked := Yba.checked }
namespace Rows
def none {H : Type} : Left H := { results := [], args := [] }

/-- 'nucleopack.LawS2068AWord': WHATEVER THE INPUT: true; the input reads as it did. -/
def lawS2068AWordSpec : ChangeSpec := { name := "lawS2068AWord", fn := fun _ => fun
  | [d] => { results := [.lit (.bool true)], args := [d] }
  | _ => none }
def lawS2068AWordRow : OpenClaim := { program := "ybulkapuo", sum := "bbf124da5e8d4f4c58f44d3ecc9d72fb924ee5eb26c206bac662beb28e04d614", func := "example.com/nucleopack/nucleopack.LawS2068AWord", spec := "lawS2068AWord", named := ["encoding/binary.LittleEndian"], apart := false }
def LawS2068AWordSaid : Prop := lawS2068AWordRow.holds Yba.pinned (OpenSpec.ofChange lawS2068AWordSpec)

/-- ITS FALSE NEIGHBOUR: 'it returns false'. Refute it at one input. -/
def lawS2068AWordWrong : ChangeSpec := { name := "lawS2068AWord", fn := fun _ => fun
  | [d] => { results := [.lit (.bool false)], args := [d] }
  | _ => none }
def LawS2068AWordWrongFalsely : Prop := lawS2068AWordRow.holds Yba.pinned (OpenSpec.ofChange lawS2068AWordWrong)

/-- 'nucleopack.LawS2068AUniform': WHATEVER THE INPUT: true; the input reads as it did. -/
def lawS2068AUniformSpec : ChangeSpec := { name := "lawS2068AUniform", fn := fun _ => fun
  | [d1, d2] => { results := [.lit (.bool true)], args := [d1, d2] }
  | _ => none }
def lawS2068AUniformRow : OpenClaim := { program := "ybulkapuo", sum := "bbf124da5e8d4f4c58f44d3ecc9d72fb924ee5eb26c206bac662beb28e04d614", func := "example.com/nucleopack/nucleopack.LawS2068AUniform", spec := "lawS2068AUniform", named := ["encoding/binary.LittleEndian"], apart := false }
def LawS2068AUniformSaid : Prop := lawS2068AUniformRow.holds Yba.pinned (OpenSpec.ofChange lawS2068AUniformSpec)

/-- ITS FALSE NEIGHBOUR: 'it returns false'. Refute it at one input. -/
def lawS2068AUniformWrong : ChangeSpec := { name := "lawS2068AUniform", fn := fun _ => fun
  | [d1, d2] => { results := [.lit (.bool false)], args := [d1, d2] }
  | _ => none }
def LawS2068AUniformWrongFalsely : Prop := lawS2068AUniformRow.holds Yba.pinned (OpenSpec.ofChange lawS2068AUniformWrong)

end Rows
end Go.Proofs.Ybulkapuo
