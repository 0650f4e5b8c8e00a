/-
  No cell of these rows narrows 'for every input' (looked for: loops, veiled, ifaces, maps, wideKeys, modest, calm, conditions, laid).
  DERIVED. THE GIVEN ROWS OF THIS SEAT. 2 by the template 'for every input the law returns true; each argument reads behind the call as it read before'; 0 by the template 'total and deterministic' (their statements: YbulkbeuyTotals.lean).
  GIVEN WITH THE SEED: the statements are not yours to turn. If you find one false, say at which input.
  Laid BY PROGRAM, IN A SANDBOX (cutbox-rows.mjs): the forced cells as the released guide's own fill.sh prints them over the translation cd6ebb91df4528f4… (all of the seat's roots in one cut). By AI agents, Wed Nov 11 2026. No macro, syntax, notation, axiom, sorry.
-/
import Derived.Test.YbulkbeuyChecked
import GoSem.Claim
import GoSem.ClaimJoined
import GoSem.ClaimMapViews
import Derived.JoinedTies
import Derived.KernelRfl
namespace Go.Proofs.Ybulkbeuy
/- THE CELL 'sum', in the pinned program and in every row, IS THE sha256 OF THE DUMP (.gsa) THAT YbulkbeuyProg.lean LOADS. Nothing in Lean hashes anything: it is a label: what it is worth is what the hold of that sum in a sandbox is worth. -/
noncomputable def Yba.pinned : Pinned := { name := "ybulkbeuy", sum := "cd6ebb91df4528f4a1b5e897dac238dc5a02c716d8028558fff462d10514795f", checked := Yba.checked }
namespace Rows
def none {H : Type} : Left H := { results := [], args := [] }

/-- 'anchorline.LawS2793BCopy': WHATEVER THE INPUT: true; the input reads as it did. -/
def lawS2793BCopySpec : ChangeSpec := { name := "lawS2793BCopy", fn := fun _ => fun
  | [d1, d2] => { results := [.lit (.bool true)], args := [d1, d2] }
  | _ => none }
def lawS2793BCopyRow : OpenClaim := { program := "ybulkbeuy", sum := "cd6ebb91df4528f4a1b5e897dac238dc5a02c716d8028558fff462d10514795f", func := "example.com/anchorline/anchorline.LawS2793BCopy", spec := "lawS2793BCopy", apart := false }
def LawS2793BCopySaid : Prop := lawS2793BCopyRow.holds Yba.pinned (OpenSpec.ofChange lawS2793BCopySpec)

/-- ITS FALSE NEIGHBOUR: 'it returns false'. Refute it at one input. -/
def lawS2793BCopyWrong : ChangeSpec := { name := "lawS2793BCopy", fn := fun _ => fun
  | [d1, d2] => { results := [.lit (.bool false)], args := [d1, d2] }
  | _ => none }
def LawS2793BCopyWrongFalsely : Prop := lawS2793BCopyRow.holds Yba.pinned (OpenSpec.ofChange lawS2793BCopyWrong)

/-- 'anchorline.LawS2793BNoShare': WHATEVER THE INPUT: true; the input reads as it did. -/
def lawS2793BNoShareSpec : ChangeSpec := { name := "lawS2793BNoShare", fn := fun _ => fun
  | [d1, d2] => { results := [.lit (.bool true)], args := [d1, d2] }
  | _ => none }
def lawS2793BNoShareRow : OpenClaim := { program := "ybulkbeuy", sum := "cd6ebb91df4528f4a1b5e897dac238dc5a02c716d8028558fff462d10514795f", func := "example.com/anchorline/anchorline.LawS2793BNoShare", spec := "lawS2793BNoShare", apart := false }
def LawS2793BNoShareSaid : Prop := lawS2793BNoShareRow.holds Yba.pinned (OpenSpec.ofChange lawS2793BNoShareSpec)

/-- ITS FALSE NEIGHBOUR: 'it returns false'. Refute it at one input. -/
def lawS2793BNoShareWrong : ChangeSpec := { name := "lawS2793BNoShare", fn := fun _ => fun
  | [d1, d2] => { results := [.lit (.bool false)], args := [d1, d2] }
  | _ => none }
def LawS2793BNoShareWrongFalsely : Prop := lawS2793BNoShareRow.holds Yba.pinned (OpenSpec.ofChange lawS2793BNoShareWrong)

end Rows
end Go.Proofs.Ybulkbeuy
