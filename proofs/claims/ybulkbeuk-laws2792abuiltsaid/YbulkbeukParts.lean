/- The walks of zzs2792asep, zzs2792aword and the law's own closure. -/
import Derived.Test.YbulkbeukTok
import Derived.Test.YbulkbeukSeps
import Derived.BigQuiet
import Derived.Deep.QuietTactic
import Derived.OpenShut
import Derived.Lib.AppendStr
import Derived.Laws.IdiomStrings
namespace Go.Proofs.Ybulkbeuk.Parts
open Go.ChangeShapes Go.WideShapes Go.ChangeAt Go.RowKit Go.Proofs.Ybulkbeuk.Cnt

/-- zzs2792asep's separator -/
def sepL (k : Int) (cr : Bool) : List UInt8 :=
  if (k % 6 == 0) = true then [32] else if (k % 6 == 1) = true then [44] else if (k % 6 == 2) = true then [9] else if (k % 6 == 3) = true then [32, 44, 32] else if (k % 6 == 4) = true then [44, 44] else if cr = true then [13] else [32]
theorem sepL_is (k : Int) (cr : Bool) : IsSep cr (sepL k cr) := by
  unfold sepL
  split
  · exact sep32 cr
  split
  · exact sep44 cr
  split
  · exact sep9 cr
  split
  · exact sep3 cr
  split
  · exact sep2 cr
  split
  · rename_i h
    subst h
    exact sep13
  · exact sep32 cr

theorem sep_any (k : Int) (cr : Bool) (w : World) (h0 : 0 ≤ k) (h1 : k ≤ 255) :
    Calls Yba.prog 10 #[.int .u8 k, .bool cr] w fun e w' => e = .returned (.string ⟨(sepL k cr).toArray⟩) ∧ w' = w := by
  by_cases c0 : (k % 6 == 0) = true
  · have hr : sepL k cr = [32] := by simp only [sepL, c0, if_true]
    rw [hr]
    clear hr
    go_enter Yba.func10, Yba.ntmps10
    go_wp2
    go_ret
    exact ⟨rfl, rfl⟩
  have c0' : (k % 6 == 0) = false := by simpa using c0
  clear c0
  by_cases c1 : (k % 6 == 1) = true
  · have hr : sepL k cr = [44] := by simp only [sepL, c0', c1, Bool.false_eq_true, if_false, if_true]
    rw [hr]
    clear hr
    go_enter Yba.func10, Yba.ntmps10
    go_wp2
    go_ret
    exact ⟨rfl, rfl⟩
  have c1' : (k % 6 == 1) = false := by simpa using c1
  clear c1
  by_cases c2 : (k % 6 == 2) = true
  · have hr : sepL k cr = [9] := by simp only [sepL, c0', c1', c2, Bool.false_eq_true, if_false, if_true]
    rw [hr]
    clear hr
    go_enter Yba.func10, Yba.ntmps10
    go_wp2
    go_ret
    exact ⟨rfl, rfl⟩
  have c2' : (k % 6 == 2) = false := by simpa using c2
  clear c2
  by_cases c3 : (k % 6 == 3) = true
  · have hr : sepL k cr = [32, 44, 32] := by simp only [sepL, c0', c1', c2', c3, Bool.false_eq_true, if_false, if_true]
    rw [hr]
    clear hr
    go_enter Yba.func10, Yba.ntmps10
    go_wp2
    go_ret
    exact ⟨rfl, rfl⟩
  have c3' : (k % 6 == 3) = false := by simpa using c3
  clear c3
  by_cases c4 : (k % 6 == 4) = true
  · have hr : sepL k cr = [44, 44] := by simp only [sepL, c0', c1', c2', c3', c4, Bool.false_eq_true, if_false, if_true]
    rw [hr]
    clear hr
    go_enter Yba.func10, Yba.ntmps10
    go_wp2
    go_ret
    exact ⟨rfl, rfl⟩
  have c4' : (k % 6 == 4) = false := by simpa using c4
  clear c4
  cases cr
  · have hr : sepL k false = [32] := by simp only [sepL, c0', c1', c2', c3', c4', Bool.false_eq_true, if_false]
    rw [hr]
    clear hr
    go_enter Yba.func10, Yba.ntmps10
    go_wp2
    go_ret
    exact ⟨rfl, rfl⟩
  · have hr : sepL k true = [13] := by simp only [sepL, c0', c1', c2', c3', c4', Bool.false_eq_true, if_false, if_true]
    rw [hr]
    clear hr
    go_enter Yba.func10, Yba.ntmps10
    go_wp2
    go_ret
    exact ⟨rfl, rfl⟩

/-- zzs2792aword gives a word -/
theorem word_any (k : Int) (cr : Bool) (w : World) (h0 : 0 ≤ k) (h1 : k ≤ 255) :
    Calls Yba.prog 11 #[.int .u8 k] w fun e w' => (∃ l, IsWord cr l ∧ e = .returned (.string ⟨l.toArray⟩)) ∧ w' = w := by
  by_cases c0 : (k % 5 == 0) = true
  · go_enter Yba.func11, Yba.ntmps11
    go_wp2
    go_ret
    exact ⟨⟨_, word1 cr, rfl⟩, rfl⟩
  have c0' : (k % 5 == 0) = false := by simpa using c0
  clear c0
  by_cases c1 : (k % 5 == 1) = true
  · go_enter Yba.func11, Yba.ntmps11
    go_wp2
    go_ret
    exact ⟨⟨_, word2 cr, rfl⟩, rfl⟩
  have c1' : (k % 5 == 1) = false := by simpa using c1
  clear c1
  by_cases c2 : (k % 5 == 2) = true
  · go_enter Yba.func11, Yba.ntmps11
    go_wp2
    go_ret
    exact ⟨⟨_, word3 cr, rfl⟩, rfl⟩
  have c2' : (k % 5 == 2) = false := by simpa using c2
  clear c2
  by_cases c3 : (k % 5 == 3) = true
  · go_enter Yba.func11, Yba.ntmps11
    go_wp2
    go_ret
    exact ⟨⟨_, word4 cr, rfl⟩, rfl⟩
  have c3' : (k % 5 == 3) = false := by simpa using c3
  clear c3
  go_enter Yba.func11, Yba.ntmps11
  go_wp2
  go_ret
  exact ⟨⟨_, word5 cr, rfl⟩, rfl⟩

/-- the closure: no separators given -/
theorem close_none (i : Int) (b1 b2 : Nat) (a : Option Addr) (cap : Nat) (cr : Bool) (w : World) (hc1 : w.cell? ⟨b1, 0, none⟩ = some (.slice a 0 cap)) :
    Calls Yba.prog 9 #[.int .i64 i, .pointer (some ⟨b1, 0, none⟩), .pointer (some ⟨b2, 0, none⟩)] w fun e w' => (∃ l, IsSep cr l ∧ e = .returned (.string ⟨l.toArray⟩)) ∧ ∃ n, w' = w.drewN n := by
  go_enter Yba.func9, Yba.ntmps9
  go_wp2
  go_ret
  exact ⟨⟨_, sep32 cr, rfl⟩, 0, rfl⟩

/-- the closure: one of the separators given -/
theorem close_some (i : Nat) (hi : i ≤ 4096) (b1 b2 : Nat) (b off len cap : Nat) (z : List Int) (cr : Bool) (w : World) (hlen : 0 < len) (hlc : len ≤ 4096) (hc1 : w.cell? ⟨b1, 0, none⟩ = some (.slice (some ⟨b, off, none⟩) len cap)) (hc2 : w.cell? ⟨b2, 0, none⟩ = some (.bool cr))
    (hz : ∀ j, j < len → w.cell? ⟨b, off + j, none⟩ = some (.int .u8 (z.getD j 0))) (hw : ∀ j, 0 ≤ z.getD j 0 ∧ z.getD j 0 ≤ 255) :
    Calls Yba.prog 9 #[.int .i64 (i : Int), .pointer (some ⟨b1, 0, none⟩), .pointer (some ⟨b2, 0, none⟩)] w fun e w' => (∃ l, IsSep cr l ∧ e = .returned (.string ⟨l.toArray⟩)) ∧ ∃ n, w' = w.drewN n := by
  have hne : ((len : Int) == 0) = false := by simp; omega
  have hl0 : ¬ (len : Int) = 0 := by omega
  have hlp : 0 < (len : Int) := by omega
  have hm0 : 0 ≤ (i : Int) % (len : Int) := Int.emod_nonneg _ hl0
  have hm1 : (i : Int) % (len : Int) < (len : Int) := Int.emod_lt_of_pos _ hlp
  go_enter Yba.func9, Yba.ntmps9
  go_wp2
  have hc := hz (i % len) (Nat.mod_lt _ hlen)
  have hb := hw (i % len)
  obtain ⟨hb0, hb1⟩ := hb
  have hti : ((i : Int) % (len : Int)).toNat = i % len := by omega
  go_quiet ((go_at_call 10; exact Calls.quiet_of_same (sep_any _ _ _ hb0 hb1)))
  go_wp2
  go_ret
  exact ⟨⟨_, sepL_is _ cr, rfl⟩, nq, rfl⟩

/-- what the walk is told of a slice of integers that came in -/
def IsRow (k : IntKind) (w : World) (a : Option Addr) (len cap : Nat) (zs : List Int) : Prop :=
  (a = none ∧ len = 0 ∧ cap = 0 ∧ zs = []) ∨
  ∃ x, a = some x ∧ len ≤ cap ∧ cap ≤ maxLen ∧ zs.length = cap ∧ (∀ i, i < zs.length → w.cell? (x.add i) = some (.int k (zs.getD i 0))) ∧ ∀ n ∈ zs, (Lit.int k n).wf = true

theorem lt_of_cell {w : World} {b o : Nat} {v : Value} (h : w.cell? ⟨b, o, none⟩ = some v) : b < w.heap.size := by
  unfold World.cell? at h
  by_cases hb : b < w.heap.size
  · exact hb
  · simp [Array.getElem?_eq_none (Nat.le_of_not_lt hb)] at h

theorem bytes_of {zs : List Int} (h : ∀ n ∈ zs, (Lit.int .u8 n).wf = true) (j : Nat) : 0 ≤ zs.getD j 0 ∧ zs.getD j 0 ≤ 255 := by
  by_cases hj : j < zs.length
  · have := h (zs.getD j 0) (by rw [List.getD_eq_getElem?_getD, List.getElem?_eq_getElem hj]; exact List.getElem_mem hj)
    simp only [Lit.wf, Bool.and_eq_true, decide_eq_true_eq] at this
    exact this
  · rw [List.getD_eq_getElem?_getD, List.getElem?_eq_none (Nat.le_of_not_lt hj)]
    decide

/-- a row with an element: its place -/
theorem IsRow.some_of {w : World} {a : Option Addr} {len cap : Nat} {zs : List Int} (h : IsRow .u8 w a len cap zs) (hl : 0 < len) :
    ∃ b off, a = some ⟨b, off, none⟩ ∧ b < w.heap.size ∧ (∀ j, j < len → w.cell? ⟨b, off + j, none⟩ = some (.int .u8 (zs.getD j 0))) ∧ ∀ j, 0 ≤ zs.getD j 0 ∧ zs.getD j 0 ≤ 255 := by
  rcases h with ⟨_, h, _⟩ | ⟨x, rfl, h1, h2, h3, h4, h5⟩
  · omega
  · obtain ⟨b, off, rfl, hc⟩ := ints_at h4 (by omega)
    exact ⟨b, off, rfl, lt_of_cell (hc 0 (by omega)), fun j hj => hc j (by omega), bytes_of h5⟩

/-- the closure, whatever separators were given -/
theorem close_any {w wr : World} {a : Option Addr} {len cap : Nat} {zs : List Int} (hr : IsRow .u8 w a len cap zs) (hB : Below w.heap.size w wr) (hl : len ≤ 1024) (i : Nat) (hi : i ≤ 1024) (b1 b2 : Nat) (cr : Bool)
    (hc1 : wr.cell? ⟨b1, 0, none⟩ = some (.slice a len cap)) (hc2 : wr.cell? ⟨b2, 0, none⟩ = some (.bool cr)) :
    Calls Yba.prog 9 #[.int .i64 (i : Int), .pointer (some ⟨b1, 0, none⟩), .pointer (some ⟨b2, 0, none⟩)] wr fun e w' => (∃ l, IsSep cr l ∧ e = .returned (.string ⟨l.toArray⟩)) ∧ ∃ n, w' = wr.drewN n := by
  by_cases h0 : len = 0
  · subst h0
    exact close_none i b1 b2 a cap cr wr hc1
  · obtain ⟨b, off, rfl, hb, hc, hw⟩ := hr.some_of (by omega)
    exact close_some i (by omega) b1 b2 b off len cap zs cr wr (by omega) (by omega) hc1 hc2 (fun j hj => by rw [hB.cell (p := ⟨b, off + j, none⟩) hb]; exact hc j hj) hw
end Go.Proofs.Ybulkbeuk.Parts
