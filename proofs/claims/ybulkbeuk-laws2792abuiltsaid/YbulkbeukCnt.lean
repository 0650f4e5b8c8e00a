/- The plain count of a record's elements: no Go in sight. -/
import Derived.KernelRfl
namespace Go.Proofs.Ybulkbeuk.Cnt

/-- a blank -/
def bl (cr : Bool) (x : Int) : Bool := x == 32 || x == 9 || (cr && x == 13)
/-- what is skipped between elements -/
def sk (cr : Bool) (x : Int) : Bool := bl cr x || x == 44
/-- what ends an element outside quotes -/
def en (cr : Bool) (x : Int) : Bool := bl cr x || x == 44 || x == 35

/-- the elements still to be counted: 'none': between elements; 'some q': inside one, q: between quotes -/
def cnt (cr : Bool) : Option Bool → List Int → Nat
  | _, [] => 0
  | none, c :: r => if sk cr c then cnt cr none r else if c == 35 then 0 else 1 + (if c == 34 then cnt cr (some true) r else cnt cr (some false) r)
  | some q, c :: r => if c == 34 then cnt cr (some (!q)) r else if !q && en cr c then (if c == 35 then 0 else cnt cr none r) else cnt cr (some q) r

theorem bl34 (cr : Bool) : bl cr 34 = false := by cases cr <;> rfl
theorem bl35 (cr : Bool) : bl cr 35 = false := by cases cr <;> rfl
theorem en34 (cr : Bool) : en cr 34 = false := by cases cr <;> rfl

theorem cnt_skip {cr : Bool} {c : Int} {r : List Int} (h : sk cr c = true) : cnt cr none (c :: r) = cnt cr none r := by
  simp [cnt, h]
theorem cnt_hash {cr : Bool} {c : Int} {r : List Int} (h : (c == 35) = true) : cnt cr none (c :: r) = 0 := by
  have : c = 35 := by simpa using h
  subst this
  have h2 : sk cr 35 = false := by cases cr <;> rfl
  simp [cnt, h2]
theorem cnt_start {cr : Bool} {c : Int} {r : List Int} (h : sk cr c = false) (h2 : (c == 35) = false) : cnt cr none (c :: r) = cnt cr (some false) (c :: r) + 1 := by
  have he : en cr c = false := by
    unfold sk at h
    unfold en
    rw [h, h2]
    rfl
  simp only [cnt, h, h2, he]
  simp
  omega
theorem cnt_quote {cr q : Bool} {c : Int} {r : List Int} (h : (c == 34) = true) : cnt cr (some q) (c :: r) = cnt cr (some (!q)) r := by
  simp only [cnt, h, if_true]
theorem cnt_end {cr q : Bool} {c : Int} {r : List Int} (hc : (c == 34) = false) (hq : q = false) (he : en cr c = true) : cnt cr (some q) (c :: r) = cnt cr none (c :: r) := by
  subst hq
  by_cases h : (c == 35) = true
  · rw [cnt_hash h]
    simp [cnt, hc, he, h]
  · have h' : (c == 35) = false := by simpa using h
    have hs : sk cr c = true := by
      unfold en at he
      unfold sk
      rw [h'] at he
      simpa using he
    rw [cnt_skip hs]
    simp [cnt, hc, he, h']
theorem cnt_in {cr q : Bool} {c : Int} {r : List Int} (hc : (c == 34) = false) (he : (!q && en cr c) = false) : cnt cr (some q) (c :: r) = cnt cr (some q) r := by
  simp [cnt, hc, he]
theorem cnt_nil (cr : Bool) (o : Option Bool) : cnt cr o [] = 0 := by
  unfold cnt
  rfl

/-- a string's bytes as numbers -/
def byt (s : ByteArray) : List Int := s.data.toList.map (fun c => (c.toNat : Int))
theorem byt_len (s : ByteArray) : (byt s).length = s.size := by simp [byt]
theorem byt_drop (s : ByteArray) (k : Nat) (h : k < s.size) : (byt s).drop k = (s[k].toNat : Int) :: (byt s).drop (k + 1) := by
  have hl : k < (byt s).length := by rw [byt_len]; exact h
  rw [List.drop_eq_getElem_cons hl]
  congr 1
  simp [byt]
  rfl
theorem byt_end (s : ByteArray) (k : Nat) (h : ¬ k < s.size) : (byt s).drop k = [] := List.drop_of_length_le (by rw [byt_len]; omega)
end Go.Proofs.Ybulkbeuk.Cnt
