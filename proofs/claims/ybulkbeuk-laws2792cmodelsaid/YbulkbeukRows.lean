/-
  No cell of these rows narrows 'for every input' (looked for: loops, veiled, ifaces, maps, wideKeys, modest, calm, conditions, laid).
  DERIVED. THE GIVEN ROWS OF THIS SEAT. 4 by the template 'for every input the law returns true; each argument reads behind the call as it read before'; 0 by the template 'total and deterministic' (their statements: YbulkbeukTotals.lean).
  GIVEN WITH THE SEED: the statements are not yours to turn. If you find one false, say at which input.
  Laid BY PROGRAM, IN A SANDBOX (cutbox-rows.mjs): the forced cells as the released guide's own fill.sh prints them over the translation 9a667559153e60b8… (all of the seat's roots in one cut). By AI agents, Wed Nov 11 2026. No macro, syntax, notation, axiom, sorry.
-/
import Derived.Test.YbulkbeukChecked
import GoSem.Claim
import GoSem.ClaimJoined
import GoSem.ClaimMapViews
import Derived.JoinedTies
import Derived.KernelRfl
namespace Go.Proofs.Ybulkbeuk
/- THE CELL 'sum', in the pinned program and in every row, IS THE sha256 OF THE DUMP (.gsa) THAT YbulkbeukProg.lean LOADS. Nothing in Lean hashes anything: it is a label: what it is worth is what the hold of that sum in a sandbox is worth. -/
noncomputable def Yba.pinned : Pinned := { name := "ybulkbeuk", sum := "9a667559153e60b82db8fd27cc78a54da1d628f671833483613be00082fe54be", checked := Yba.checked }
namespace Rows
def none {H : Type} : Left H := { results := [], args := [] }

/-- 'vouch-for-hosts.LawS2792AModel': WHATEVER THE INPUT: true; the input reads as it did. -/
def lawS2792AModelSpec : ChangeSpec := { name := "lawS2792AModel", fn := fun _ => fun
  | [d1, d2] => { results := [.lit (.bool true)], args := [d1, d2] }
  | _ => none }
def lawS2792AModelRow : OpenClaim := { program := "ybulkbeuk", sum := "9a667559153e60b82db8fd27cc78a54da1d628f671833483613be00082fe54be", func := "example.com/vouch-for-hosts/vouch-for-hosts.LawS2792AModel", spec := "lawS2792AModel", apart := false }
def LawS2792AModelSaid : Prop := lawS2792AModelRow.holds Yba.pinned (OpenSpec.ofChange lawS2792AModelSpec)

/-- ITS FALSE NEIGHBOUR: 'it returns false'. Refute it at one input. -/
def lawS2792AModelWrong : ChangeSpec := { name := "lawS2792AModel", fn := fun _ => fun
  | [d1, d2] => { results := [.lit (.bool false)], args := [d1, d2] }
  | _ => none }
def LawS2792AModelWrongFalsely : Prop := lawS2792AModelRow.holds Yba.pinned (OpenSpec.ofChange lawS2792AModelWrong)

/-- 'vouch-for-hosts.LawS2792ABuilt': WHATEVER THE INPUT: true; the input reads as it did. -/
def lawS2792ABuiltSpec : ChangeSpec := { name := "lawS2792ABuilt", fn := fun _ => fun
  | [d1, d2, d3, d4, d5] => { results := [.lit (.bool true)], args := [d1, d2, d3, d4, d5] }
  | _ => none }
def lawS2792ABuiltRow : OpenClaim := { program := "ybulkbeuk", sum := "9a667559153e60b82db8fd27cc78a54da1d628f671833483613be00082fe54be", func := "example.com/vouch-for-hosts/vouch-for-hosts.LawS2792ABuilt", spec := "lawS2792ABuilt", unfollowed := true, recurses := true, apart := false }
def LawS2792ABuiltSaid : Prop := lawS2792ABuiltRow.holds Yba.pinned (OpenSpec.ofChange lawS2792ABuiltSpec)

/-- ITS FALSE NEIGHBOUR: 'it returns false'. Refute it at one input. -/
def lawS2792ABuiltWrong : ChangeSpec := { name := "lawS2792ABuilt", fn := fun _ => fun
  | [d1, d2, d3, d4, d5] => { results := [.lit (.bool false)], args := [d1, d2, d3, d4, d5] }
  | _ => none }
def LawS2792ABuiltWrongFalsely : Prop := lawS2792ABuiltRow.holds Yba.pinned (OpenSpec.ofChange lawS2792ABuiltWrong)

/-- 'vouch-for-hosts.LawS2792CModel': WHATEVER THE INPUT: true; the input reads as it did. -/
def lawS2792CModelSpec : ChangeSpec := { name := "lawS2792CModel", fn := fun _ => fun
  | [d1, d2, d3, d4, d5] => { results := [.lit (.bool true)], args := [d1, d2, d3, d4, d5] }
  | _ => none }
def lawS2792CModelRow : OpenClaim := { program := "ybulkbeuk", sum := "9a667559153e60b82db8fd27cc78a54da1d628f671833483613be00082fe54be", func := "example.com/vouch-for-hosts/vouch-for-hosts.LawS2792CModel", spec := "lawS2792CModel", unfollowed := true, recurses := true, apart := false }
def LawS2792CModelSaid : Prop := lawS2792CModelRow.holds Yba.pinned (OpenSpec.ofChange lawS2792CModelSpec)

/-- ITS FALSE NEIGHBOUR: 'it returns false'. Refute it at one input. -/
def lawS2792CModelWrong : ChangeSpec := { name := "lawS2792CModel", fn := fun _ => fun
  | [d1, d2, d3, d4, d5] => { results := [.lit (.bool false)], args := [d1, d2, d3, d4, d5] }
  | _ => none }
def LawS2792CModelWrongFalsely : Prop := lawS2792CModelRow.holds Yba.pinned (OpenSpec.ofChange lawS2792CModelWrong)

/-- 'vouch-for-hosts.LawS2792CCached': WHATEVER THE INPUT: true; the input reads as it did. -/
def lawS2792CCachedSpec : ChangeSpec := { name := "lawS2792CCached", fn := fun _ => fun
  | [d1, d2, d3] => { results := [.lit (.bool true)], args := [d1, d2, d3] }
  | _ => none }
def lawS2792CCachedRow : OpenClaim := { program := "ybulkbeuk", sum := "9a667559153e60b82db8fd27cc78a54da1d628f671833483613be00082fe54be", func := "example.com/vouch-for-hosts/vouch-for-hosts.LawS2792CCached", spec := "lawS2792CCached", unfollowed := true, recurses := true, apart := false }
def LawS2792CCachedSaid : Prop := lawS2792CCachedRow.holds Yba.pinned (OpenSpec.ofChange lawS2792CCachedSpec)

/-- ITS FALSE NEIGHBOUR: 'it returns false'. Refute it at one input. -/
def lawS2792CCachedWrong : ChangeSpec := { name := "lawS2792CCached", fn := fun _ => fun
  | [d1, d2, d3] => { results := [.lit (.bool false)], args := [d1, d2, d3] }
  | _ => none }
def LawS2792CCachedWrongFalsely : Prop := lawS2792CCachedRow.holds Yba.pinned (OpenSpec.ofChange lawS2792CCachedWrong)

end Rows
end Go.Proofs.Ybulkbeuk
