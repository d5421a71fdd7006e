/-
  No cell of these rows narrows 'for every input' (looked for: loops, veiled, ifaces, maps, wideKeys, modest, calm, conditions, laid).
  DERIVED. THE GIVEN ROWS OF THIS SEAT. 2 by the template 'for every input the law returns true; each argument reads behind the call as it read before'; 0 by the template 'total and deterministic' (their statements: YbulkapweTotals.lean).
  GIVEN WITH THE SEED: the statements are not yours to turn. If you find one false, say at which input.
  Laid BY PROGRAM, IN A SANDBOX (cutbox-rows.mjs): the forced cells as the released guide's own fill.sh prints them over the translation 68e7448f86ed5d48… (all of the seat's roots in one cut). By AI agents, Wed Nov 11 2026. No macro, syntax, notation, axiom, sorry.
-/
import Derived.Test.YbulkapweChecked
import GoSem.Claim
import GoSem.ClaimJoined
import GoSem.ClaimMapViews
import Derived.JoinedTies
import Derived.KernelRfl
namespace Go.Proofs.Ybulkapwe
/- THE CELL 'sum', in the pinned program and in every row, IS THE sha256 OF THE DUMP (.gsa) THAT YbulkapweProg.lean LOADS. Nothing in Lean hashes anything: it is a label: what it is worth is what the hold of that sum in a sandbox is worth. -/
noncomputable def Yba.pinned : Pinned := { name := "ybulkapwe", sum := "68e7448f86ed5d48872611abc7a7a5287518acf3ee0c95a4d08df67bd0d6a2ba", checked := Yba.checked }
namespace Rows
def none {H : Type} : Left H := { results := [], args := [] }

/-- 'wire.LawS2071BBytes': WHATEVER THE INPUT: true; the input reads as it did. -/
def lawS2071BBytesSpec : ChangeSpec := { name := "lawS2071BBytes", fn := fun _ => fun
  | [d1, d2, d3] => { results := [.lit (.bool true)], args := [d1, d2, d3] }
  | _ => none }
def lawS2071BBytesRow : OpenClaim := { program := "ybulkapwe", sum := "68e7448f86ed5d48872611abc7a7a5287518acf3ee0c95a4d08df67bd0d6a2ba", func := "example.com/mirante/mirante/internal/wire.LawS2071BBytes", spec := "lawS2071BBytes", named := ["encoding/binary.BigEndian"], apart := false }
def LawS2071BBytesSaid : Prop := lawS2071BBytesRow.holds Yba.pinned (OpenSpec.ofChange lawS2071BBytesSpec)

/-- ITS FALSE NEIGHBOUR: 'it returns false'. Refute it at one input. -/
def lawS2071BBytesWrong : ChangeSpec := { name := "lawS2071BBytes", fn := fun _ => fun
  | [d1, d2, d3] => { results := [.lit (.bool false)], args := [d1, d2, d3] }
  | _ => none }
def LawS2071BBytesWrongFalsely : Prop := lawS2071BBytesRow.holds Yba.pinned (OpenSpec.ofChange lawS2071BBytesWrong)

/-- 'wire.LawS2071BRoundTrip': WHATEVER THE INPUT: true; the input reads as it did. -/
def lawS2071BRoundTripSpec : ChangeSpec := { name := "lawS2071BRoundTrip", fn := fun _ => fun
  | [d1, d2] => { results := [.lit (.bool true)], args := [d1, d2] }
  | _ => none }
def lawS2071BRoundTripRow : OpenClaim := { program := "ybulkapwe", sum := "68e7448f86ed5d48872611abc7a7a5287518acf3ee0c95a4d08df67bd0d6a2ba", func := "example.com/mirante/mirante/internal/wire.LawS2071BRoundTrip", spec := "lawS2071BRoundTrip", named := ["encoding/binary.BigEndian"], apart := false }
def LawS2071BRoundTripSaid : Prop := lawS2071BRoundTripRow.holds Yba.pinned (OpenSpec.ofChange lawS2071BRoundTripSpec)

/-- ITS FALSE NEIGHBOUR: 'it returns false'. Refute it at one input. -/
def lawS2071BRoundTripWrong : ChangeSpec := { name := "lawS2071BRoundTrip", fn := fun _ => fun
  | [d1, d2] => { results := [.lit (.bool false)], args := [d1, d2] }
  | _ => none }
def LawS2071BRoundTripWrongFalsely : Prop := lawS2071BRoundTripRow.holds Yba.pinned (OpenSpec.ofChange lawS2071BRoundTripWrong)

end Rows
end Go.Proofs.Ybulkapwe
