/- The arguments of the C laws opened: a slice of names, a slice of strings, a slice of pairs of strings. -/
import Derived.Test.YbulkbeukCached
import Derived.Deep.SlicePairs
import Derived.SliceStrings
import Derived.OpenShut
import Derived.ShutString
namespace Go.Proofs.Ybulkbeuk.Adm
open Go.ChangeShapes Go.WideShapes Go.ChangeAt Go.RowKit Go.Deep
open Go.ChangeMaps (open_string shut_string)
set_option linter.unusedSimpArgs false
set_option linter.unusedVariables false

theorem byte_of {n : Int} (h : (Lit.int .u8 n).wf = true) : 0 ≤ n ∧ n ≤ 255 := by
  simp only [Lit.wf, Bool.and_eq_true, decide_eq_true_eq] at h
  exact h

set_option maxRecDepth 100000 in
theorem open_names {H : Type} {enc : TypeId × Value → H} {W : World} {base : Nat} {v : Value} {d : DataW H} {p : List MemPlace}
    (hv : Value.okWide Yba.prog W .any base 29 v) (h : DataW.Trod enc Yba.prog W 0 (fun _ => true) true 29 v d p) : ∃ ns, NamesAt W v ns := by
  obtain ⟨a0, len0, cap0, rfl⟩ := okWide_slice Yba.underlying29 hv
  obtain ⟨fuel, hf⟩ := h
  rcases open_slice_pairs Yba.underlying29 Yba.underlying74 (by kernel_rfl) rfl rfl (by kernel_rfl) (by kernel_rfl) hf with ⟨hcs, _⟩ | ⟨a, len, cap, m, n, V0, V1, D0, D1, P0, P1, hcs, _, hl, hm, hmm, _, hx⟩
  · simp [Value.cells] at hcs
    obtain ⟨rfl, rfl, rfl⟩ := hcs
    exact ⟨[], none, 0, rfl, .inl rfl, fun i hi => by simp at hi⟩
  · simp [Value.cells] at hcs
    obtain ⟨rfl, rfl, rfl⟩ := hcs
    have hlm : len0 ≤ m := by rw [hmm]; split <;> omega
    obtain ⟨q, hq⟩ := choose_lt (n := len0) (α := Int × ByteArray) (p := fun i q => V0 i = .int .u8 q.1 ∧ V1 i = .string q.2 ∧ (0 ≤ q.1 ∧ q.1 ≤ 255) ∧ q.2.size ≤ maxLen) (fun i hi => by
      obtain ⟨_, _, t0, t1⟩ := hx i (by omega)
      obtain ⟨x, e0, _, w0⟩ := DataW.trod_int Yba.underlying5 t0
      obtain ⟨s, e1, _, w1⟩ := DataW.trod_string Yba.underlying9 t1
      exact ⟨(x, s), by simpa using e0, by simpa using e1, byte_of w0, w1⟩)
    refine ⟨(List.range len0).map q, some a, cap0, by simp, ?_, ?_⟩
    · by_cases h0 : len0 = 0
      · left
        simp [h0]
      · right
        obtain ⟨b, off, spot⟩ := a
        have hspot : spot = none := by simpa [Addr.add] using World.cell?_spot (hx 0 (by omega)).1
        subst hspot
        refine ⟨b, off, rfl, fun i hi => ?_⟩
        have hi' : i < len0 := by simpa using hi
        obtain ⟨c0, c1, _, _⟩ := hx i (by omega)
        obtain ⟨e0, e1, _⟩ := hq i hi'
        rw [add_plain] at c0 c1
        rw [e0] at c0
        rw [e1] at c1
        simp only [List.getD_eq_getElem?_getD, List.getElem?_map, List.getElem?_range hi', Option.map_some, Option.getD_some]
        exact ⟨c0, by rw [Nat.add_assoc]; exact c1⟩
    · intro i hi
      have hi' : i < len0 := by simpa using hi
      obtain ⟨_, _, b1, b2⟩ := hq i hi'
      simp only [List.getD_eq_getElem?_getD, List.getElem?_map, List.getElem?_range hi', Option.map_some, Option.getD_some]
      exact ⟨b1, b2⟩

set_option maxRecDepth 100000 in
theorem open_strs {H : Type} {enc : TypeId × Value → H} {W : World} {base : Nat} {v : Value} {d : DataW H} {p : List MemPlace}
    (hv : Value.okWide Yba.prog W .any base 31 v) (h : DataW.Trod enc Yba.prog W 0 (fun _ => true) true 31 v d p) : ∃ rs, StrsAt W v rs ∧ ∀ i, i < rs.length → (rs.getD i ByteArray.empty).size ≤ maxLen := by
  obtain ⟨a0, len0, cap0, rfl⟩ := okWide_slice Yba.underlying31 hv
  obtain ⟨fuel, hf⟩ := h
  rcases open_strings Yba.underlying31 Yba.underlying9 (by kernel_rfl) hf with ⟨hcs, _⟩ | ⟨a, len, cap, ss, hcs, _, hl, hm, hss, _, hcell, hsz⟩
  · simp [Value.cells] at hcs
    obtain ⟨rfl, rfl, rfl⟩ := hcs
    exact ⟨[], ⟨none, 0, rfl, .inl rfl⟩, fun i hi => by simp at hi⟩
  · simp [Value.cells] at hcs
    obtain ⟨rfl, rfl, rfl⟩ := hcs
    have hlm : len0 ≤ ss.length := by rw [hss]; split <;> omega
    have hget : ∀ i, i < len0 → (ss.take len0).getD i ByteArray.empty = ss.getD i ByteArray.empty := fun i hi => by
      simp [List.getD_eq_getElem?_getD, List.getElem?_take, hi]
    have hlen : (ss.take len0).length = len0 := by simp; omega
    refine ⟨ss.take len0, ⟨some a, cap0, by rw [hlen], ?_⟩, ?_⟩
    · by_cases h0 : len0 = 0
      · left
        rw [hlen, h0]
      · right
        obtain ⟨b, off, spot⟩ := a
        have hspot : spot = none := by simpa [Addr.add] using World.cell?_spot (hcell 0 (by omega))
        subst hspot
        refine ⟨b, off, rfl, fun i hi => ?_⟩
        rw [hlen] at hi
        rw [hget i hi, ← add_plain]
        exact hcell i (by omega)
    · intro i hi
      rw [hlen] at hi
      rw [hget i hi, List.getD_eq_getElem?_getD, List.getElem?_eq_getElem (by omega)]
      exact hsz _ (List.getElem_mem _)
end Go.Proofs.Ybulkbeuk.Adm
