/-
  No cell of these rows narrows 'for every input' (looked for: loops, veiled, ifaces, maps, wideKeys, modest, calm, conditions, laid).
  DERIVED. THE GIVEN ROWS OF THIS SEAT. 4 by the template 'for every input the law returns true; each argument reads behind the call as it read before'; 0 by the template 'total and deterministic' (their statements: YbulkfeoqTotals.lean).
  GIVEN WITH THE SEED: the statements are not yours to turn. If you find one false, say at which input.
  Laid BY PROGRAM, IN A SANDBOX (cutbox-rows.mjs): the forced cells as the released guide's own fill.sh prints them over the translation b75f492a71b1123d… (all of the seat's roots in one cut). By AI agents, Wed Nov 11 2026. No macro, syntax, notation, axiom, sorry.
-/
import Derived.Test.YbulkfeoqChecked
import GoSem.Claim
import GoSem.ClaimJoined
import GoSem.ClaimMapViews
import Derived.JoinedTies
import Derived.KernelRfl
namespace Go.Proofs.Ybulkfeoq
/- THE CELL 'sum', in the pinned program and in every row, IS THE sha256 OF THE DUMP (.gsa) THAT YbulkfeoqProg.lean LOADS. Nothing in Lean hashes anything: it is a label: what it is worth is what the hold of that sum in a sandbox is worth. -/
noncomputable def Yba.pinned : Pinned := { name := "ybulkfeoq", sum := "b75f492a71b1123d9bdfa45a186c96dca21d115358e9b01b3122a1d1d1c3d97f", checked := Yba.checked }
namespace Rows
def none {H : Type} : Left H := { results := [], args := [] }

/-- 'qline.LawS7803AWhole': WHATEVER THE INPUT: true; the input reads as it did. -/
def lawS7803AWholeSpec : ChangeSpec := { name := "lawS7803AWhole", fn := fun _ => fun
  | [d1, d2, d3, d4, d5, d6, d7] => { results := [.lit (.bool true)], args := [d1, d2, d3, d4, d5, d6, d7] }
  | _ => none }
def lawS7803AWholeRow : OpenClaim := { program := "ybulkfeoq", sum := "b75f492a71b1123d9bdfa45a186c96dca21d115358e9b01b3122a1d1d1c3d97f", func := "example.com/qline/qline.LawS7803AWhole", spec := "lawS7803AWhole", apart := false }
def LawS7803AWholeSaid : Prop := lawS7803AWholeRow.holds Yba.pinned (OpenSpec.ofChange lawS7803AWholeSpec)

/-- ITS FALSE NEIGHBOUR: 'it returns false'. Refute it at one input. -/
def lawS7803AWholeWrong : ChangeSpec := { name := "lawS7803AWhole", fn := fun _ => fun
  | [d1, d2, d3, d4, d5, d6, d7] => { results := [.lit (.bool false)], args := [d1, d2, d3, d4, d5, d6, d7] }
  | _ => none }
def LawS7803AWholeWrongFalsely : Prop := lawS7803AWholeRow.holds Yba.pinned (OpenSpec.ofChange lawS7803AWholeWrong)

/-- 'qline.LawS7803BWhole': WHATEVER THE INPUT: true; the input reads as it did. -/
def lawS7803BWholeSpec : ChangeSpec := { name := "lawS7803BWhole", fn := fun _ => fun
  | [d1, d2, d3, d4, d5] => { results := [.lit (.bool true)], args := [d1, d2, d3, d4, d5] }
  | _ => none }
def lawS7803BWholeRow : OpenClaim := { program := "ybulkfeoq", sum := "b75f492a71b1123d9bdfa45a186c96dca21d115358e9b01b3122a1d1d1c3d97f", func := "example.com/qline/qline.LawS7803BWhole", spec := "lawS7803BWhole", unfollowed := true, recurses := true, apart := false }
def LawS7803BWholeSaid : Prop := lawS7803BWholeRow.holds Yba.pinned (OpenSpec.ofChange lawS7803BWholeSpec)

/-- ITS FALSE NEIGHBOUR: 'it returns false'. Refute it at one input. -/
def lawS7803BWholeWrong : ChangeSpec := { name := "lawS7803BWhole", fn := fun _ => fun
  | [d1, d2, d3, d4, d5] => { results := [.lit (.bool false)], args := [d1, d2, d3, d4, d5] }
  | _ => none }
def LawS7803BWholeWrongFalsely : Prop := lawS7803BWholeRow.holds Yba.pinned (OpenSpec.ofChange lawS7803BWholeWrong)

/-- 'qline.LawS7803CWhole': WHATEVER THE INPUT: true; the input reads as it did. -/
def lawS7803CWholeSpec : ChangeSpec := { name := "lawS7803CWhole", fn := fun _ => fun
  | [d1, d2] => { results := [.lit (.bool true)], args := [d1, d2] }
  | _ => none }
def lawS7803CWholeRow : OpenClaim := { program := "ybulkfeoq", sum := "b75f492a71b1123d9bdfa45a186c96dca21d115358e9b01b3122a1d1d1c3d97f", func := "example.com/qline/qline.LawS7803CWhole", spec := "lawS7803CWhole", inPlace := ["internal/bytealg.abigen_runtime_cmpstring"], unfollowed := true, recurses := true, apart := false }
def LawS7803CWholeSaid : Prop := lawS7803CWholeRow.holds Yba.pinned (OpenSpec.ofChange lawS7803CWholeSpec)

/-- ITS FALSE NEIGHBOUR: 'it returns false'. Refute it at one input. -/
def lawS7803CWholeWrong : ChangeSpec := { name := "lawS7803CWhole", fn := fun _ => fun
  | [d1, d2] => { results := [.lit (.bool false)], args := [d1, d2] }
  | _ => none }
def LawS7803CWholeWrongFalsely : Prop := lawS7803CWholeRow.holds Yba.pinned (OpenSpec.ofChange lawS7803CWholeWrong)

/-- 'qline.LawS7803CAdd': WHATEVER THE INPUT: true; the input reads as it did. -/
def lawS7803CAddSpec : ChangeSpec := { name := "lawS7803CAdd", fn := fun _ => fun
  | [d] => { results := [.lit (.bool true)], args := [d] }
  | _ => none }
def lawS7803CAddRow : OpenClaim := { program := "ybulkfeoq", sum := "b75f492a71b1123d9bdfa45a186c96dca21d115358e9b01b3122a1d1d1c3d97f", func := "example.com/qline/qline.LawS7803CAdd", spec := "lawS7803CAdd", inPlace := ["internal/bytealg.abigen_runtime_cmpstring"], unfollowed := true, recurses := true, apart := false }
def LawS7803CAddSaid : Prop := lawS7803CAddRow.holds Yba.pinned (OpenSpec.ofChange lawS7803CAddSpec)

/-- ITS FALSE NEIGHBOUR: 'it returns false'. Refute it at one input. -/
def lawS7803CAddWrong : ChangeSpec := { name := "lawS7803CAdd", fn := fun _ => fun
  | [d] => { results := [.lit (.bool false)], args := [d] }
  | _ => none }
def LawS7803CAddWrongFalsely : Prop := lawS7803CAddRow.holds Yba.pinned (OpenSpec.ofChange lawS7803CAddWrong)

end Rows
end Go.Proofs.Ybulkfeoq
