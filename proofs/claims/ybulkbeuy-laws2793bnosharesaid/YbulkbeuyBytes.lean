/- Rows of bytes; bytes.Equal and bytes.Clone. -/
import Derived.Test.YbulkbeuyRows
import Derived.WalkKit
import Derived.ProofKit
import Derived.WalkSpells
import Derived.Below
import Derived.Laws.BytesArg
import Derived.Laws.OwnMore
import Derived.Laws.AppendOwnNone
import Derived.Laws.CopyOwn
import Derived.Lib.SliceRun
import Derived.BigQuiet
import Derived.Deep.QuietTactic
import Derived.Deep.RegionLaw
import Derived.Deep.DeepCutAuto
namespace Go.Proofs.Ybulkbeuy.Sh
open Go.ChangeShapes Go.WideShapes Go.ChangeAt Go.RowKit
set_option linter.unusedSimpArgs false
set_option linter.unusedVariables false

theorem hidMk {p : Prop} (h : p) : Hid p := h
theorem lt_of_cell {w : World} {b o : Nat} {v : Value} (h : w.cell? ⟨b, o, none⟩ = some v) : b < w.heap.size := by
  unfold World.cell? at h
  by_cases hb : b < w.heap.size
  · exact hb
  · simp [Array.getElem?_eq_none (Nat.le_of_not_lt hb)] at h

/-- a slice of bytes as it lies -/
def Bytes (w : World) (v : Value) (zs : List Int) : Prop :=
  ∃ a cap, v = .slice a zs.length cap ∧ (a = none → zs.length = 0) ∧ (zs.length = 0 ∨ ∃ b off, a = some ⟨b, off, none⟩ ∧ ∀ i, i < zs.length → w.cell? ⟨b, off + i, none⟩ = some (.int .u8 (zs.getD i 0))) ∧ ∀ i, i < zs.length → 0 ≤ zs.getD i 0 ∧ zs.getD i 0 ≤ 255

theorem Bytes.below {w w' : World} {v : Value} {zs : List Int} (h : Bytes w v zs) (hb : Below w.heap.size w w') : Bytes w' v zs := by
  obtain ⟨a, cap, rfl, ha, hc, hz⟩ := h
  refine ⟨a, cap, rfl, ha, ?_, hz⟩
  rcases hc with h0 | ⟨b, off, rfl, hcell⟩
  · exact .inl h0
  · refine .inr ⟨b, off, rfl, fun i hi => ?_⟩
    have := hcell i hi
    rw [hb.cell (p := ⟨b, off + i, none⟩) (lt_of_cell this)]
    exact this

theorem Bytes.conv {w : World} {v : Value} {zs : List Int} (h : Bytes w v zs) : (convert 23 9 v).run Yba.prog w = .ok (.string (strOfNums zs)) w := by
  obtain ⟨a, cap, rfl, ha, hc, hz⟩ := h
  rcases hc with h0 | ⟨b, off, rfl, hcell⟩
  · have : zs = [] := List.length_eq_zero_iff.1 h0
    subst this
    cases a with
    | none =>
      rw [run_convert_bytes_nil w 23 5 Yba.underlying23 Yba.underlying5 _ _ 9 Yba.underlying9]
      rfl
    | some ad =>
      rw [run_convert_bytes_string w 23 9 5 _ _ cap Yba.underlying23 Yba.underlying5 Yba.underlying9, run_bytesToString w _ _ cap [] (by simp [loadCells, loadCellsFrom])]
      rfl
  · exact run_convert_bytes_arg w 23 5 Yba.underlying23 Yba.underlying5 b off _ cap zs rfl hcell 9 Yba.underlying9

theorem equal_any (u v : Value) (zs : List Int) (w : World) (hu : Bytes w u zs) (hv : Bytes w v zs) :
    Calls Yba.prog 7 #[u, v] w fun e w' => e = .returned (.bool true) ∧ w' = w := by
  have c1 := hu.conv
  have c2 := hv.conv
  clear hu hv
  go_enter Yba.func7, Yba.ntmps7
  go_wp2_with fail
  go_ret
  exact ⟨by simp, rfl⟩

theorem info5 : (Yba.prog.info? 5).map (fun i => (i.zero, i.size, i.bytes)) = some (some (.int .u8 0), 1, 1) := by kernel_rfl
theorem info32 : (Yba.prog.info? 32).map (fun i => (i.zero, i.size, i.bytes)) = some (some (.agg #[.string ⟨#[]⟩, .slice none 0 0]), 2, 40) := by kernel_rfl

/-- a block whose first cells are bytes -/
def ByteBlock (w : World) (g len : Nat) : Prop := ∃ cur, w.heap[g]? = some (.cells cur 5 (0, 0)) ∧ ∀ j, j < len → ∃ z : Int, cur[j]? = some (.int .u8 z) ∧ 0 ≤ z ∧ z ≤ 255
/-- a location of the copy: nil, or in a block of bytes that is new -/
def Loc (base : Nat) (w : World) (v : Value) : Prop := v = .slice none 0 0 ∨ ∃ g len cap, v = .slice (some ⟨g, 0, none⟩) len cap ∧ len ≤ 4096 ∧ base ≤ g ∧ ByteBlock w g len

theorem Loc.of_own {base : Nat} {w : World} {v : Value} {zs : List Int} (h : w.ownsRow base 5 1 v zs.length (zs.map (Value.int .u8))) (hl : zs.length ≤ 4096) (hz : ∀ i, i < zs.length → 0 ≤ zs.getD i 0 ∧ zs.getD i 0 ≤ 255) : Loc base w v := by
  rcases h.2 with ⟨h', _⟩ | ⟨g, cap, cur, h', hb, hg, _, _, _, htake⟩
  · exact .inl h'
  · refine .inr ⟨g, _, cap, h', hl, hb, cur, hg, fun j hj => ⟨zs.getD j 0, ?_, hz j hj⟩⟩
    have h1 : (cur.toList.take (zs.length * 1))[j]? = some (.int .u8 (zs.getD j 0)) := by
      rw [htake, List.getElem?_map, List.getElem?_eq_getElem hj, List.getD_eq_getElem?_getD, List.getElem?_eq_getElem hj]
      rfl
    rw [List.getElem?_take, if_pos (by omega)] at h1
    simpa using h1

theorem bytes_oneCell (zs : List Int) : ∀ u ∈ zs.map (Value.int .u8), u.oneCell' = true := by
  intro u hu
  obtain ⟨x, _, rfl⟩ := List.mem_map.1 hu
  rfl

theorem Bytes.news {w : World} {ad : Addr} {cap : Nat} {zs : List Int} (h : Bytes w (.slice (some ad) zs.length cap) zs) : ∀ j u, (zs.map (Value.int .u8))[j]? = some u → w.cell? (ad.add j) = some u := by
  obtain ⟨a, cap', he, ha, hc, hz⟩ := h
  cases he
  intro j u hj
  have hjl : j < zs.length := by
    rcases Nat.lt_or_ge j zs.length with h | h
    · exact h
    · simp [List.getElem?_eq_none (show (zs.map (Value.int .u8)).length ≤ j by simpa using h)] at hj
  rcases hc with h0 | ⟨b, off, he, hcell⟩
  · omega
  · cases he
    rw [add_plain, hcell j hjl, ← hj, List.getElem?_map, List.getElem?_eq_getElem hjl, List.getD_eq_getElem?_getD, List.getElem?_eq_getElem hjl]
    rfl

/-- bytes.Clone -/
theorem clone_any (v : Value) (zs : List Int) (w : World) (hv : Bytes w v zs) (hl : zs.length ≤ 4096) :
    Calls Yba.prog 9 #[v] w fun e w' => ∃ u, e = .returned u ∧ Below w.heap.size w w' ∧ Loc w.heap.size w' u := by
  have q23 := fun (w : World) a n c => Lib.run_eql_slice_nil (P := Yba.prog) w 23 5 a n c 0 0 Yba.underlying23
  obtain ⟨i0, hi, hz0, hz1, hz2⟩ := info_parts info5
  have HV := hidMk hv
  obtain ⟨a, cap, rfl, ha, hc, hz⟩ := hv
  have HZ := hidMk hz
  clear hc hz
  cases a with
  | none =>
    go_enter Yba.func9, Yba.ntmps9
    go_wp2_with fail
    go_ret
    exact ⟨_, rfl, Below.refl _ _, .inl rfl⟩
  | some ad =>
    have HN := hidMk ((HV.out.below ((Below.refl _ w).alloc (Nat.le_refl _) (.cells #[] 5))).news)
    have HO := hidMk (World.ownsRow_lit (base := w.heap.size) (e := 5) (size := 1) w #[] 0 (Nat.le_refl _) (by omega) rfl)
    go_enter Yba.func9, Yba.ntmps9
    go_wp2_with (at_builtin; refine wpList_append_own _ rfl _ _ 23 rfl w.heap.size 5 i0 (.int .u8 0) 1 1 Yba.underlying23 hi hz0 hz1 hz2 rfl (by decide) _ _ _ rfl HO.out ad zs.length cap (zs.map (Value.int .u8)) rfl (by simp) HN.out (bytes_oneCell zs) (by unfold maxLen; omega) (by omega) (by simp) ?_; intro v' w2 hown hgr hnil)
    go_ret
    refine ⟨v', rfl, ((Below.refl _ w).alloc (Nat.le_refl _) _).grown hgr (by simp) (fun k hk => by cases hk; exact Nat.le_refl _), ?_⟩
    rw [Nat.zero_add] at hown
    exact Loc.of_own hown hl HZ.out
end Go.Proofs.Ybulkbeuy.Sh
