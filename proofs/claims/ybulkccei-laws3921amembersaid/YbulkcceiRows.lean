/-
  No cell of these rows narrows 'for every input' (looked for: loops, veiled, ifaces, maps, wideKeys, modest, calm, conditions, laid).
  DERIVED. THE GIVEN ROWS OF THIS SEAT. 5 by the template 'for every input the law returns true; each argument reads behind the call as it read before'; 0 by the template 'total and deterministic' (their statements: YbulkcceiTotals.lean).
  GIVEN WITH THE SEED: the statements are not yours to turn. If you find one false, say at which input.
  Laid BY PROGRAM, IN A SANDBOX (cutbox-rows.mjs): the forced cells as the released guide's own fill.sh prints them over the translation 48a7f6c63c85d435… (all of the seat's roots in one cut). By AI agents, Wed Nov 11 2026. No macro, syntax, notation, axiom, sorry.
-/
import Derived.Test.YbulkcceiChecked
import GoSem.Claim
import GoSem.ClaimJoined
import GoSem.ClaimMapViews
import Derived.JoinedTies
import Derived.KernelRfl
namespace Go.Proofs.Ybulkccei
/- THE CELL 'sum', in the pinned program and in every row, IS THE sha256 OF THE DUMP (.gsa) THAT YbulkcceiProg.lean LOADS. Nothing in Lean hashes anything: it is a label: what it is worth is what the hold of that sum in a sandbox is worth. -/
noncomputable def Yba.pinned : Pinned := { name := "ybulkccei", sum := "48a7f6c63c85d4358333919aa5adc4421d52dcee10da7a1f34e4bd95a571dd4b", checked := Yba.checked }
namespace Rows
def none {H : Type} : Left H := { results := [], args := [] }

/-- 'diff.LawS3921AModel': WHATEVER THE INPUT: true; the input reads as it did. -/
def lawS3921AModelSpec : ChangeSpec := { name := "lawS3921AModel", fn := fun _ => fun
  | [d1, d2, d3] => { results := [.lit (.bool true)], args := [d1, d2, d3] }
  | _ => none }
def lawS3921AModelRow : OpenClaim := { program := "ybulkccei", sum := "48a7f6c63c85d4358333919aa5adc4421d52dcee10da7a1f34e4bd95a571dd4b", func := "example.com/revmark/revmark/diff.LawS3921AModel", spec := "lawS3921AModel", plainKeys := false, apart := false }
def LawS3921AModelSaid : Prop := lawS3921AModelRow.holds Yba.pinned (OpenSpec.ofChange lawS3921AModelSpec)

/-- ITS FALSE NEIGHBOUR: 'it returns false'. Refute it at one input. -/
def lawS3921AModelWrong : ChangeSpec := { name := "lawS3921AModel", fn := fun _ => fun
  | [d1, d2, d3] => { results := [.lit (.bool false)], args := [d1, d2, d3] }
  | _ => none }
def LawS3921AModelWrongFalsely : Prop := lawS3921AModelRow.holds Yba.pinned (OpenSpec.ofChange lawS3921AModelWrong)

/-- 'diff.LawS3921AMember': WHATEVER THE INPUT: true; the input reads as it did. -/
def lawS3921AMemberSpec : ChangeSpec := { name := "lawS3921AMember", fn := fun _ => fun
  | [d1, d2, d3, d4] => { results := [.lit (.bool true)], args := [d1, d2, d3, d4] }
  | _ => none }
def lawS3921AMemberRow : OpenClaim := { program := "ybulkccei", sum := "48a7f6c63c85d4358333919aa5adc4421d52dcee10da7a1f34e4bd95a571dd4b", func := "example.com/revmark/revmark/diff.LawS3921AMember", spec := "lawS3921AMember", plainKeys := false, apart := false }
def LawS3921AMemberSaid : Prop := lawS3921AMemberRow.holds Yba.pinned (OpenSpec.ofChange lawS3921AMemberSpec)

/-- ITS FALSE NEIGHBOUR: 'it returns false'. Refute it at one input. -/
def lawS3921AMemberWrong : ChangeSpec := { name := "lawS3921AMember", fn := fun _ => fun
  | [d1, d2, d3, d4] => { results := [.lit (.bool false)], args := [d1, d2, d3, d4] }
  | _ => none }
def LawS3921AMemberWrongFalsely : Prop := lawS3921AMemberRow.holds Yba.pinned (OpenSpec.ofChange lawS3921AMemberWrong)

/-- 'yang.LawS3921BIndex': WHATEVER THE INPUT: true; the input reads as it did. -/
def lawS3921BIndexSpec : ChangeSpec := { name := "lawS3921BIndex", fn := fun _ => fun
  | [d1, d2, d3] => { results := [.lit (.bool true)], args := [d1, d2, d3] }
  | _ => none }
def lawS3921BIndexRow : OpenClaim := { program := "ybulkccei", sum := "48a7f6c63c85d4358333919aa5adc4421d52dcee10da7a1f34e4bd95a571dd4b", func := "example.com/revmark/revmark/yang.LawS3921BIndex", spec := "lawS3921BIndex", plainKeys := false, apart := false }
def LawS3921BIndexSaid : Prop := lawS3921BIndexRow.holds Yba.pinned (OpenSpec.ofChange lawS3921BIndexSpec)

/-- ITS FALSE NEIGHBOUR: 'it returns false'. Refute it at one input. -/
def lawS3921BIndexWrong : ChangeSpec := { name := "lawS3921BIndex", fn := fun _ => fun
  | [d1, d2, d3] => { results := [.lit (.bool false)], args := [d1, d2, d3] }
  | _ => none }
def LawS3921BIndexWrongFalsely : Prop := lawS3921BIndexRow.holds Yba.pinned (OpenSpec.ofChange lawS3921BIndexWrong)

/-- 'yang.LawS3921BWalk': WHATEVER THE INPUT: true; the input reads as it did. -/
def lawS3921BWalkSpec : ChangeSpec := { name := "lawS3921BWalk", fn := fun _ => fun
  | [d] => { results := [.lit (.bool true)], args := [d] }
  | _ => none }
def lawS3921BWalkRow : OpenClaim := { program := "ybulkccei", sum := "48a7f6c63c85d4358333919aa5adc4421d52dcee10da7a1f34e4bd95a571dd4b", func := "example.com/revmark/revmark/yang.LawS3921BWalk", spec := "lawS3921BWalk", plainKeys := false, apart := false }
def LawS3921BWalkSaid : Prop := lawS3921BWalkRow.holds Yba.pinned (OpenSpec.ofChange lawS3921BWalkSpec)

/-- ITS FALSE NEIGHBOUR: 'it returns false'. Refute it at one input. -/
def lawS3921BWalkWrong : ChangeSpec := { name := "lawS3921BWalk", fn := fun _ => fun
  | [d] => { results := [.lit (.bool false)], args := [d] }
  | _ => none }
def LawS3921BWalkWrongFalsely : Prop := lawS3921BWalkRow.holds Yba.pinned (OpenSpec.ofChange lawS3921BWalkWrong)

/-- 'module.LawS3921CFirstLatest': WHATEVER THE INPUT: true; the input reads as it did. -/
def lawS3921CFirstLatestSpec : ChangeSpec := { name := "lawS3921CFirstLatest", fn := fun _ => fun
  | [d] => { results := [.lit (.bool true)], args := [d] }
  | _ => none }
def lawS3921CFirstLatestRow : OpenClaim := { program := "ybulkccei", sum := "48a7f6c63c85d4358333919aa5adc4421d52dcee10da7a1f34e4bd95a571dd4b", func := "example.com/revmark/revmark/module.LawS3921CFirstLatest", spec := "lawS3921CFirstLatest", plainKeys := false, apart := false }
def LawS3921CFirstLatestSaid : Prop := lawS3921CFirstLatestRow.holds Yba.pinned (OpenSpec.ofChange lawS3921CFirstLatestSpec)

/-- ITS FALSE NEIGHBOUR: 'it returns false'. Refute it at one input. -/
def lawS3921CFirstLatestWrong : ChangeSpec := { name := "lawS3921CFirstLatest", fn := fun _ => fun
  | [d] => { results := [.lit (.bool false)], args := [d] }
  | _ => none }
def LawS3921CFirstLatestWrongFalsely : Prop := lawS3921CFirstLatestRow.holds Yba.pinned (OpenSpec.ofChange lawS3921CFirstLatestWrong)

end Rows
end Go.Proofs.Ybulkccei
