/- The plain law of a built record: what a separator and a word do to the count. -/
import Derived.Test.YbulkbeukCnt
namespace Go.Proofs.Ybulkbeuk.Cnt

/-- bytes as numbers -/
def toI (l : List UInt8) : List Int := l.map (fun c => (c.toNat : Int))
theorem toI_append (a b : List UInt8) : toI (a ++ b) = toI a ++ toI b := by simp [toI]

/-- between elements, or behind one -/
def Out (o : Option Bool) : Prop := o = none ∨ o = some false
def IsSep (cr : Bool) (l : List UInt8) : Prop := l.length ≤ 3 ∧ ∀ o, Out o → ∀ t, cnt cr o (toI l ++ t) = cnt cr none t
def IsWord (cr : Bool) (l : List UInt8) : Prop := l.length ≤ 5 ∧ ∀ t, cnt cr none (toI l ++ t) = 1 + cnt cr (some false) t

theorem sep32 (cr : Bool) : IsSep cr [32] := ⟨by decide, by rintro o (rfl | rfl) t <;> cases cr <;> rfl⟩
theorem sep44 (cr : Bool) : IsSep cr [44] := ⟨by decide, by rintro o (rfl | rfl) t <;> cases cr <;> rfl⟩
theorem sep9 (cr : Bool) : IsSep cr [9] := ⟨by decide, by rintro o (rfl | rfl) t <;> cases cr <;> rfl⟩
theorem sep3 (cr : Bool) : IsSep cr [32, 44, 32] := ⟨by decide, by rintro o (rfl | rfl) t <;> cases cr <;> rfl⟩
theorem sep2 (cr : Bool) : IsSep cr [44, 44] := ⟨by decide, by rintro o (rfl | rfl) t <;> cases cr <;> rfl⟩
theorem sep13 : IsSep true [13] := ⟨by decide, by rintro o (rfl | rfl) t <;> rfl⟩
theorem word1 (cr : Bool) : IsWord cr [97] := ⟨by decide, fun t => by cases cr <;> rfl⟩
theorem word2 (cr : Bool) : IsWord cr [98, 99] := ⟨by decide, fun t => by cases cr <;> rfl⟩
theorem word3 (cr : Bool) : IsWord cr [34, 112, 32, 113, 34] := ⟨by decide, fun t => by cases cr <;> rfl⟩
theorem word4 (cr : Bool) : IsWord cr [34, 114, 44, 35, 34] := ⟨by decide, fun t => by cases cr <;> rfl⟩
theorem word5 (cr : Bool) : IsWord cr [43, 120] := ⟨by decide, fun t => by cases cr <;> rfl⟩

/-- what has been written so far: n elements; o: the state behind it -/
def Wrote (cr : Bool) (l : List UInt8) (n : Nat) (o : Option Bool) : Prop := ∀ t, cnt cr none (toI l ++ t) = n + cnt cr o t
theorem Wrote.nil (cr : Bool) : Wrote cr [] 0 none := fun t => by simp [toI]
theorem Wrote.sep {cr : Bool} {l s : List UInt8} {n : Nat} {o : Option Bool} (h : Wrote cr l n o) (ho : Out o) (hs : IsSep cr s) : Wrote cr (l ++ s) n none := fun t => by
  rw [toI_append, List.append_assoc, h, hs.2 o ho]
theorem Wrote.word {cr : Bool} {l s : List UInt8} {n : Nat} (h : Wrote cr l n none) (hs : IsWord cr s) : Wrote cr (l ++ s) (n + 1) (some false) := fun t => by
  rw [toI_append, List.append_assoc, h, hs.2 t]
  omega
theorem Wrote.done {cr : Bool} {l : List UInt8} {n : Nat} {o : Option Bool} (h : Wrote cr l n o) : cnt cr none (toI l) = n := by
  have := h []
  rw [List.append_nil, cnt_nil] at this
  exact this
theorem byt_of (l : List UInt8) : byt ⟨l.toArray⟩ = toI l := rfl
end Go.Proofs.Ybulkbeuk.Cnt
