/- A map keyed by strings, as a function from texts to values. -/
import Derived.Test.YbulkbeukRows
import Derived.WalkKit
import Derived.ProofKit
import Derived.WalkSpells
import Derived.Maps.OwnSet
import Derived.Maps.OwnOps
namespace Go.Proofs.Ybulkbeuk.MapF
open Go.ChangeShapes Go.WideShapes Go.ChangeAt Go.RowKit Go.Maps

/-- an element as it is -/
def anyE (v : Value) : Option (DataW Value × List MemPlace) := some (.held v, [])
theorem law : Keyed Yba.prog 9 := string_keyed Yba.underlying9
theorem key_of (s : ByteArray) (h : s.size ≤ maxLen) : keyOf Yba.prog 9 (.string s) = some (.string s.data.toList) := WideMaps.keyOf_string_mk Yba.underlying9 h

/-- block b is a map of at most n entries; m: what each text leads to (z: the zero value) -/
def MapIs (w : World) (b n : Nat) (z : Value) (m : List UInt8 → Value) : Prop :=
  ∃ D : DataW Value, w.ownsMap Yba.prog 9 anyE b n D ∧ ∀ l, D.atKey (.string l) (.held z) = .held (m l)

def upd (m : List UInt8 → Value) (l : List UInt8) (v : Value) : List UInt8 → Value := fun x => if x = l then v else m x

section
variable {w : World} {b n : Nat} {z : Value} {m : List UInt8 → Value}

theorem MapIs.made (w : World) (z : Value) : MapIs (w.alloc (.map #[] 0)) w.heap.size 0 z (fun _ => z) :=
  ⟨_, World.ownsMap_made w _ _ _, fun l => by simp [DataW.atKey]⟩

theorem MapIs.lt (h : MapIs w b n z m) : b < w.heap.size := by obtain ⟨D, h1, _⟩ := h; exact h1.lt
theorem MapIs.mono (h : MapIs w b n z m) {n' : Nat} (hn : n ≤ n') : MapIs w b n' z m := by obtain ⟨D, h1, h2⟩ := h; exact ⟨D, h1.mono hn, h2⟩
theorem MapIs.kept (h : MapIs w b n z m) {w' : World} {row : Option Nat} (hg : w.grownBy w' row) (hne : some b ≠ row) : MapIs w' b n z m := by obtain ⟨D, h1, h2⟩ := h; exact ⟨D, h1.kept hg hne, h2⟩
theorem MapIs.block (h : MapIs w b n z m) {w' : World} (hb : w'.heap[b]? = w.heap[b]?) : MapIs w' b n z m := by
  obtain ⟨D, ⟨es, clock, hb0, F, hs, hD⟩, h2⟩ := h
  exact ⟨D, ⟨es, clock, hb.trans hb0, F, hs, hD⟩, h2⟩

theorem MapIs.lookup (h : MapIs w b n z m) {t e : TypeId} (ht : Yba.prog.underlying t = some (.map 9 e)) (hz : (zeroValue e).run Yba.prog w = .ok z w) (s : ByteArray) (hs : s.size ≤ maxLen) :
    (Instr.lookup t (.map (some b)) (.string s) false).run Yba.prog w = .ok (m s.data.toList) w := by
  obtain ⟨D, h1, h2⟩ := h
  obtain ⟨v, ps, hrun, hv⟩ := h1.lookup law ht hz (zd := .held z) (zp := []) rfl (key_of s hs)
  have hv' : (DataW.held v : DataW Value) = D.atKey (.string s.data.toList) (.held z) := by
    have := hv
    simp only [anyE, Option.some.injEq, Prod.mk.injEq] at this
    exact this.1
  rw [h2] at hv'
  cases hv'
  exact hrun

theorem MapIs.update (h : MapIs w b n z m) {t e : TypeId} (ht : Yba.prog.underlying t = some (.map 9 e)) (hn : n < maxLen) (s : ByteArray) (hs : s.size ≤ maxLen) (v : Value) :
    ∃ w', (Instr.mapUpdate t (.map (some b)) (.string s) v).run Yba.prog w = .ok () w' ∧ MapIs w' b (n + 1) z (upd m s.data.toList v) ∧ w.grownBy w' (some b) := by
  obtain ⟨D, h1, h2⟩ := h
  obtain ⟨w', hrun, h3, h4⟩ := h1.update law ht hn (key_of s hs) (val := v) (d := .held v) (ps := []) rfl
  refine ⟨w', hrun, ⟨_, h3, fun l => ?_⟩, h4⟩
  by_cases hl : l = s.data.toList
  · subst hl
    rw [atKey_put_same (h1.tidy law).isMap (by simp [WideAt.IsKeyLit])]
    simp [upd]
  · rw [atKey_put_other (by simpa using hl), h2]
    simp [upd, hl]
end

/-- 'm[k] = v' at the operation -/
theorem wpList_store {w : World} {b n : Nat} {z : Value} {m : List UInt8 → Value} (h : MapIs w b n z m) {ops : Array Oper} {rest : List Oper} {o : Oper} {a : Act} {Q : Exit → Act → World → Prop}
    (hg : o.guard = none) (mo x v : Operand) (t e : TypeId) (hop : o.op = Op.mapUpdate t mo x v) (ht : Yba.prog.underlying t = some (.map 9 e)) (hn : n < maxLen) (hm : a.eval mo = .map (some b)) (s : ByteArray) (hs : s.size ≤ maxLen) (hx : a.eval x = .string s) (val : Value) (hv : a.eval v = val)
    (hK : ∀ w', MapIs w' b (n + 1) z (upd m s.data.toList val) → w.grownBy w' (some b) → wpList Yba.prog ops Q rest (a.put o.dst undef) w') :
    wpList Yba.prog ops Q (o :: rest) a w := by
  refine wpList_plain hg fun K' hK' => ?_
  obtain ⟨w', hrun, r1, r2⟩ := h.update ht hn s hs val
  unfold Oper.wp
  simp [execOp, hop, hm, hx, hv, hrun, Result.andThen]
  exact hK' _ _ (hK w' r1 r2)
end Go.Proofs.Ybulkbeuk.MapF
