/-
  No cell of these rows narrows 'for every input' (looked for: loops, veiled, ifaces, maps, wideKeys, modest, calm, conditions, laid).
  DERIVED. THE GIVEN ROWS OF THIS SEAT. 4 by the template 'for every input the law returns true; each argument reads behind the call as it read before'; 0 by the template 'total and deterministic' (their statements: YbulkczzoTotals.lean).
  GIVEN WITH THE SEED: the statements are not yours to turn. If you find one false, say at which input.
  Laid BY PROGRAM, IN A SANDBOX (cutbox-rows.mjs): the forced cells as the released guide's own fill.sh prints them over the translation 770a7912c6a69c0f… (all of the seat's roots in one cut). By AI agents, Wed Nov 11 2026. No macro, syntax, notation, axiom, sorry.
-/
import Derived.Test.YbulkczzoChecked
import GoSem.Claim
import GoSem.ClaimJoined
import GoSem.ClaimMapViews
import Derived.JoinedTies
import Derived.KernelRfl
namespace Go.Proofs.Ybulkczzo
/- THE CELL 'sum', in the pinned program and in every row, IS THE sha256 OF THE DUMP (.gsa) THAT YbulkczzoProg.lean LOADS. Nothing in Lean hashes anything: it is a label: what it is worth is what the hold of that sum in a sandbox is worth. -/
noncomputable def Yba.pinned : Pinned := { name := "ybulkczzo", sum := "770a7912c6a69c0f6c6650426784083794e5a712361054225c42dea73240f902", checked := Yba.checked }
namespace Rows
def none {H : Type} : Left H := { results := [], args := [] }

/-- 'gang.LawS5071AFinds': WHATEVER THE INPUT: true; the input reads as it did. -/
def lawS5071AFindsSpec : ChangeSpec := { name := "lawS5071AFinds", fn := fun _ => fun
  | [d1, d2, d3] => { results := [.lit (.bool true)], args := [d1, d2, d3] }
  | _ => none }
def lawS5071AFindsRow : OpenClaim := { program := "ybulkczzo", sum := "770a7912c6a69c0f6c6650426784083794e5a712361054225c42dea73240f902", func := "example.com/lockstep/lockstep/gang.LawS5071AFinds", spec := "lawS5071AFinds", unfollowed := true, recurses := true, apart := false }
def LawS5071AFindsSaid : Prop := lawS5071AFindsRow.holds Yba.pinned (OpenSpec.ofChange lawS5071AFindsSpec)

/-- ITS FALSE NEIGHBOUR: 'it returns false'. Refute it at one input. -/
def lawS5071AFindsWrong : ChangeSpec := { name := "lawS5071AFinds", fn := fun _ => fun
  | [d1, d2, d3] => { results := [.lit (.bool false)], args := [d1, d2, d3] }
  | _ => none }
def LawS5071AFindsWrongFalsely : Prop := lawS5071AFindsRow.holds Yba.pinned (OpenSpec.ofChange lawS5071AFindsWrong)

/-- 'gang.LawS5071AFindsEach': WHATEVER THE INPUT: true; the input reads as it did. -/
def lawS5071AFindsEachSpec : ChangeSpec := { name := "lawS5071AFindsEach", fn := fun _ => fun
  | [d1, d2, d3] => { results := [.lit (.bool true)], args := [d1, d2, d3] }
  | _ => none }
def lawS5071AFindsEachRow : OpenClaim := { program := "ybulkczzo", sum := "770a7912c6a69c0f6c6650426784083794e5a712361054225c42dea73240f902", func := "example.com/lockstep/lockstep/gang.LawS5071AFindsEach", spec := "lawS5071AFindsEach", unfollowed := true, recurses := true, apart := false }
def LawS5071AFindsEachSaid : Prop := lawS5071AFindsEachRow.holds Yba.pinned (OpenSpec.ofChange lawS5071AFindsEachSpec)

/-- ITS FALSE NEIGHBOUR: 'it returns false'. Refute it at one input. -/
def lawS5071AFindsEachWrong : ChangeSpec := { name := "lawS5071AFindsEach", fn := fun _ => fun
  | [d1, d2, d3] => { results := [.lit (.bool false)], args := [d1, d2, d3] }
  | _ => none }
def LawS5071AFindsEachWrongFalsely : Prop := lawS5071AFindsEachRow.holds Yba.pinned (OpenSpec.ofChange lawS5071AFindsEachWrong)

/-- 'coalloc.LawS5071CModel': WHATEVER THE INPUT: true; the input reads as it did. -/
def lawS5071CModelSpec : ChangeSpec := { name := "lawS5071CModel", fn := fun _ => fun
  | [d1, d2] => { results := [.lit (.bool true)], args := [d1, d2] }
  | _ => none }
def lawS5071CModelRow : OpenClaim := { program := "ybulkczzo", sum := "770a7912c6a69c0f6c6650426784083794e5a712361054225c42dea73240f902", func := "example.com/lockstep/lockstep/coalloc.LawS5071CModel", spec := "lawS5071CModel", apart := false }
def LawS5071CModelSaid : Prop := lawS5071CModelRow.holds Yba.pinned (OpenSpec.ofChange lawS5071CModelSpec)

/-- ITS FALSE NEIGHBOUR: 'it returns false'. Refute it at one input. -/
def lawS5071CModelWrong : ChangeSpec := { name := "lawS5071CModel", fn := fun _ => fun
  | [d1, d2] => { results := [.lit (.bool false)], args := [d1, d2] }
  | _ => none }
def LawS5071CModelWrongFalsely : Prop := lawS5071CModelRow.holds Yba.pinned (OpenSpec.ofChange lawS5071CModelWrong)

/-- 'coalloc.LawS5071CUndoGrew': WHATEVER THE INPUT: true; the input reads as it did. -/
def lawS5071CUndoGrewSpec : ChangeSpec := { name := "lawS5071CUndoGrew", fn := fun _ => fun
  | [d1, d2] => { results := [.lit (.bool true)], args := [d1, d2] }
  | _ => none }
def lawS5071CUndoGrewRow : OpenClaim := { program := "ybulkczzo", sum := "770a7912c6a69c0f6c6650426784083794e5a712361054225c42dea73240f902", func := "example.com/lockstep/lockstep/coalloc.LawS5071CUndoGrew", spec := "lawS5071CUndoGrew", apart := false }
def LawS5071CUndoGrewSaid : Prop := lawS5071CUndoGrewRow.holds Yba.pinned (OpenSpec.ofChange lawS5071CUndoGrewSpec)

/-- ITS FALSE NEIGHBOUR: 'it returns false'. Refute it at one input. -/
def lawS5071CUndoGrewWrong : ChangeSpec := { name := "lawS5071CUndoGrew", fn := fun _ => fun
  | [d1, d2] => { results := [.lit (.bool false)], args := [d1, d2] }
  | _ => none }
def LawS5071CUndoGrewWrongFalsely : Prop := lawS5071CUndoGrewRow.holds Yba.pinned (OpenSpec.ofChange lawS5071CUndoGrewWrong)

end Rows
end Go.Proofs.Ybulkczzo
