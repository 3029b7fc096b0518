/-
  No cell of these rows narrows 'for every input' (looked for: loops, veiled, ifaces, maps, wideKeys, modest, calm, conditions, laid).
  DERIVED. THE GIVEN ROWS OF THIS SEAT. 4 by the template 'for every input the law returns true; each argument reads behind the call as it read before'; 0 by the template 'total and deterministic' (their statements: YbulkcufiTotals.lean).
  GIVEN WITH THE SEED: the statements are not yours to turn. If you find one false, say at which input.
  Laid BY PROGRAM, IN A SANDBOX (cutbox-rows.mjs): the forced cells as the released guide's own fill.sh prints them over the translation da84bd57d0b6942e… (all of the seat's roots in one cut). By AI agents, Wed Nov 11 2026. No macro, syntax, notation, axiom, sorry.
-/
import Derived.Test.YbulkcufiChecked
import GoSem.Claim
import GoSem.ClaimJoined
import GoSem.ClaimMapViews
import Derived.JoinedTies
import Derived.KernelRfl
namespace Go.Proofs.Ybulkcufi
/- THE CELL 'sum', in the pinned program and in every row, IS THE sha256 OF THE DUMP (.gsa) THAT YbulkcufiProg.lean LOADS. Nothing in Lean hashes anything: it is a label: what it is worth is what the hold of that sum in a sandbox is worth. -/
noncomputable def Yba.pinned : Pinned := { name := "ybulkcufi", sum := "da84bd57d0b6942ede3b7050feb40e45f0bb22c2c5217512e85fce7b46e2bcca", checked := Yba.checked }
namespace Rows
def none {H : Type} : Left H := { results := [], args := [] }

/-- 'capture.LawS4792BModel': WHATEVER THE INPUT: true; the input reads as it did. -/
def lawS4792BModelSpec : ChangeSpec := { name := "lawS4792BModel", fn := fun _ => fun
  | [d1, d2, d3] => { results := [.lit (.bool true)], args := [d1, d2, d3] }
  | _ => none }
def lawS4792BModelRow : OpenClaim := { program := "ybulkcufi", sum := "da84bd57d0b6942ede3b7050feb40e45f0bb22c2c5217512e85fce7b46e2bcca", func := "example.com/cairn/cairn/internal/capture.LawS4792BModel", spec := "lawS4792BModel", named := ["encoding/binary.BigEndian"], apart := false }
def LawS4792BModelSaid : Prop := lawS4792BModelRow.holds Yba.pinned (OpenSpec.ofChange lawS4792BModelSpec)

/-- ITS FALSE NEIGHBOUR: 'it returns false'. Refute it at one input. -/
def lawS4792BModelWrong : ChangeSpec := { name := "lawS4792BModel", fn := fun _ => fun
  | [d1, d2, d3] => { results := [.lit (.bool false)], args := [d1, d2, d3] }
  | _ => none }
def LawS4792BModelWrongFalsely : Prop := lawS4792BModelRow.holds Yba.pinned (OpenSpec.ofChange lawS4792BModelWrong)

/-- 'capture.LawS4792BBuilt': WHATEVER THE INPUT: true; the input reads as it did. -/
def lawS4792BBuiltSpec : ChangeSpec := { name := "lawS4792BBuilt", fn := fun _ => fun
  | [d1, d2, d3, d4, d5, d6, d7, d8, d9, d10] => { results := [.lit (.bool true)], args := [d1, d2, d3, d4, d5, d6, d7, d8, d9, d10] }
  | _ => none }
def lawS4792BBuiltRow : OpenClaim := { program := "ybulkcufi", sum := "da84bd57d0b6942ede3b7050feb40e45f0bb22c2c5217512e85fce7b46e2bcca", func := "example.com/cairn/cairn/internal/capture.LawS4792BBuilt", spec := "lawS4792BBuilt", named := ["encoding/binary.BigEndian"], apart := false }
def LawS4792BBuiltSaid : Prop := lawS4792BBuiltRow.holds Yba.pinned (OpenSpec.ofChange lawS4792BBuiltSpec)

/-- ITS FALSE NEIGHBOUR: 'it returns false'. Refute it at one input. -/
def lawS4792BBuiltWrong : ChangeSpec := { name := "lawS4792BBuilt", fn := fun _ => fun
  | [d1, d2, d3, d4, d5, d6, d7, d8, d9, d10] => { results := [.lit (.bool false)], args := [d1, d2, d3, d4, d5, d6, d7, d8, d9, d10] }
  | _ => none }
def LawS4792BBuiltWrongFalsely : Prop := lawS4792BBuiltRow.holds Yba.pinned (OpenSpec.ofChange lawS4792BBuiltWrong)

/-- 'cairn.LawS4792CQR': WHATEVER THE INPUT: true; the input reads as it did. -/
def lawS4792CQRSpec : ChangeSpec := { name := "lawS4792CQR", fn := fun _ => fun
  | [d1, d2, d3] => { results := [.lit (.bool true)], args := [d1, d2, d3] }
  | _ => none }
def lawS4792CQRRow : OpenClaim := { program := "ybulkcufi", sum := "da84bd57d0b6942ede3b7050feb40e45f0bb22c2c5217512e85fce7b46e2bcca", func := "example.com/cairn/cairn.LawS4792CQR", spec := "lawS4792CQR", unfollowed := true, recurses := true, named := ["encoding/binary.BigEndian"], apart := false }
def LawS4792CQRSaid : Prop := lawS4792CQRRow.holds Yba.pinned (OpenSpec.ofChange lawS4792CQRSpec)

/-- ITS FALSE NEIGHBOUR: 'it returns false'. Refute it at one input. -/
def lawS4792CQRWrong : ChangeSpec := { name := "lawS4792CQR", fn := fun _ => fun
  | [d1, d2, d3] => { results := [.lit (.bool false)], args := [d1, d2, d3] }
  | _ => none }
def LawS4792CQRWrongFalsely : Prop := lawS4792CQRRow.holds Yba.pinned (OpenSpec.ofChange lawS4792CQRWrong)

/-- 'cairn.LawS4792CStat': WHATEVER THE INPUT: true; the input reads as it did. -/
def lawS4792CStatSpec : ChangeSpec := { name := "lawS4792CStat", fn := fun _ => fun
  | [d1, d2, d3] => { results := [.lit (.bool true)], args := [d1, d2, d3] }
  | _ => none }
def lawS4792CStatRow : OpenClaim := { program := "ybulkcufi", sum := "da84bd57d0b6942ede3b7050feb40e45f0bb22c2c5217512e85fce7b46e2bcca", func := "example.com/cairn/cairn.LawS4792CStat", spec := "lawS4792CStat", unfollowed := true, recurses := true, named := ["encoding/binary.BigEndian"], apart := false }
def LawS4792CStatSaid : Prop := lawS4792CStatRow.holds Yba.pinned (OpenSpec.ofChange lawS4792CStatSpec)

/-- ITS FALSE NEIGHBOUR: 'it returns false'. Refute it at one input. -/
def lawS4792CStatWrong : ChangeSpec := { name := "lawS4792CStat", fn := fun _ => fun
  | [d1, d2, d3] => { results := [.lit (.bool false)], args := [d1, d2, d3] }
  | _ => none }
def LawS4792CStatWrongFalsely : Prop := lawS4792CStatRow.holds Yba.pinned (OpenSpec.ofChange lawS4792CStatWrong)

end Rows
end Go.Proofs.Ybulkcufi
