/-
  No cell of these rows narrows 'for every input' (looked for: loops, veiled, ifaces, maps, wideKeys, modest, calm, conditions, laid).
  DERIVED. THE GIVEN ROWS OF THIS SEAT. 3 by the template 'for every input the law returns true; each argument reads behind the call as it read before'; 0 by the template 'total and deterministic' (their statements: YbulkccbcTotals.lean).
  GIVEN WITH THE SEED: the statements are not yours to turn. If you find one false, say at which input.
  Laid BY PROGRAM, IN A SANDBOX (cutbox-rows.mjs): the forced cells as the released guide's own fill.sh prints them over the translation dc360f80b4cf05b2… (all of the seat's roots in one cut). By AI agents, Wed Nov 11 2026. No macro, syntax, notation, axiom, sorry.
-/
import Derived.Test.YbulkccbcChecked
import GoSem.Claim
import GoSem.ClaimJoined
import GoSem.ClaimMapViews
import Derived.JoinedTies
import Derived.KernelRfl
namespace Go.Proofs.Ybulkccbc
/- THE CELL 'sum', in the pinned program and in every row, IS THE sha256 OF THE DUMP (.gsa) THAT YbulkccbcProg.lean LOADS. Nothing in Lean hashes anything: it is a label: what it is worth is what the hold of that sum in a sandbox is worth. -/
noncomputable def Yba.pinned : Pinned := { name := "ybulkccbc", sum := "dc360f80b4cf05b2b83e8d84fca53f4b6dbc5c98894d19fb486f951cc4d3880f", checked := Yba.checked }
namespace Rows
def none {H : Type} : Left H := { results := [], args := [] }

/-- 'serigraph.LawS3915ACut': WHATEVER THE INPUT: true; the input reads as it did. -/
def lawS3915ACutSpec : ChangeSpec := { name := "lawS3915ACut", fn := fun _ => fun
  | [d1, d2, d3, d4] => { results := [.lit (.bool true)], args := [d1, d2, d3, d4] }
  | _ => none }
def lawS3915ACutRow : OpenClaim := { program := "ybulkccbc", sum := "dc360f80b4cf05b2b83e8d84fca53f4b6dbc5c98894d19fb486f951cc4d3880f", func := "example.com/serigraph/serigraph.LawS3915ACut", spec := "lawS3915ACut", apart := false }
def LawS3915ACutSaid : Prop := lawS3915ACutRow.holds Yba.pinned (OpenSpec.ofChange lawS3915ACutSpec)

/-- ITS FALSE NEIGHBOUR: 'it returns false'. Refute it at one input. -/
def lawS3915ACutWrong : ChangeSpec := { name := "lawS3915ACut", fn := fun _ => fun
  | [d1, d2, d3, d4] => { results := [.lit (.bool false)], args := [d1, d2, d3, d4] }
  | _ => none }
def LawS3915ACutWrongFalsely : Prop := lawS3915ACutRow.holds Yba.pinned (OpenSpec.ofChange lawS3915ACutWrong)

/-- 'serigraph.LawS3915BPut': WHATEVER THE INPUT: true; the input reads as it did. -/
def lawS3915BPutSpec : ChangeSpec := { name := "lawS3915BPut", fn := fun _ => fun
  | [d1, d2, d3, d4, d5, d6, d7] => { results := [.lit (.bool true)], args := [d1, d2, d3, d4, d5, d6, d7] }
  | _ => none }
def lawS3915BPutRow : OpenClaim := { program := "ybulkccbc", sum := "dc360f80b4cf05b2b83e8d84fca53f4b6dbc5c98894d19fb486f951cc4d3880f", func := "example.com/serigraph/serigraph.LawS3915BPut", spec := "lawS3915BPut", apart := false }
def LawS3915BPutSaid : Prop := lawS3915BPutRow.holds Yba.pinned (OpenSpec.ofChange lawS3915BPutSpec)

/-- ITS FALSE NEIGHBOUR: 'it returns false'. Refute it at one input. -/
def lawS3915BPutWrong : ChangeSpec := { name := "lawS3915BPut", fn := fun _ => fun
  | [d1, d2, d3, d4, d5, d6, d7] => { results := [.lit (.bool false)], args := [d1, d2, d3, d4, d5, d6, d7] }
  | _ => none }
def LawS3915BPutWrongFalsely : Prop := lawS3915BPutRow.holds Yba.pinned (OpenSpec.ofChange lawS3915BPutWrong)

/-- 'serigraph.LawS3915BReserve': WHATEVER THE INPUT: true; the input reads as it did. -/
def lawS3915BReserveSpec : ChangeSpec := { name := "lawS3915BReserve", fn := fun _ => fun
  | [d1, d2] => { results := [.lit (.bool true)], args := [d1, d2] }
  | _ => none }
def lawS3915BReserveRow : OpenClaim := { program := "ybulkccbc", sum := "dc360f80b4cf05b2b83e8d84fca53f4b6dbc5c98894d19fb486f951cc4d3880f", func := "example.com/serigraph/serigraph.LawS3915BReserve", spec := "lawS3915BReserve", apart := false }
def LawS3915BReserveSaid : Prop := lawS3915BReserveRow.holds Yba.pinned (OpenSpec.ofChange lawS3915BReserveSpec)

/-- ITS FALSE NEIGHBOUR: 'it returns false'. Refute it at one input. -/
def lawS3915BReserveWrong : ChangeSpec := { name := "lawS3915BReserve", fn := fun _ => fun
  | [d1, d2] => { results := [.lit (.bool false)], args := [d1, d2] }
  | _ => none }
def LawS3915BReserveWrongFalsely : Prop := lawS3915BReserveRow.holds Yba.pinned (OpenSpec.ofChange lawS3915BReserveWrong)

end Rows
end Go.Proofs.Ybulkccbc
