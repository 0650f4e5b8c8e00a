/- A slice of edges opened. -/
import Derived.Test.YbulkbeukGroups
namespace Go.Proofs.Ybulkbeuk.Adm
open Go.ChangeShapes Go.WideShapes Go.ChangeAt Go.RowKit Go.Deep
set_option linter.unusedSimpArgs false
set_option linter.unusedVariables false

set_option maxRecDepth 100000 in
theorem open_edges {H : Type} {enc : TypeId × Value → H} {W : World} {base : Nat} {v : Value} {d : DataW H} {p : List MemPlace}
    (hv : Value.okWide Yba.prog W .any base 30 v) (h : DataW.Trod enc Yba.prog W 0 (fun _ => true) true 30 v d p) : ∃ es, EdgesAt W v es := by
  obtain ⟨a0, len0, cap0, rfl⟩ := okWide_slice Yba.underlying30 hv
  obtain ⟨fuel, hf⟩ := h
  rcases open_slice_pairs Yba.underlying30 Yba.underlying34 (by kernel_rfl) rfl rfl (by kernel_rfl) (by kernel_rfl) hf with ⟨hcs, _⟩ | ⟨a, len, cap, m, n, V0, V1, D0, D1, P0, P1, hcs, _, hl, hm, hmm, _, hx⟩
  · simp [Value.cells] at hcs
    obtain ⟨rfl, rfl, rfl⟩ := hcs
    exact ⟨[], none, 0, rfl, .inl rfl, fun i hi => by simp at hi⟩
  · simp [Value.cells] at hcs
    obtain ⟨rfl, rfl, rfl⟩ := hcs
    have hlm : len0 ≤ m := by rw [hmm]; split <;> omega
    obtain ⟨q, hq⟩ := choose_lt (n := len0) (α := ByteArray × ByteArray) (p := fun i q => V0 i = .string q.1 ∧ V1 i = .string q.2 ∧ q.1.size ≤ maxLen ∧ q.2.size ≤ maxLen) (fun i hi => by
      obtain ⟨_, _, t0, t1⟩ := hx i (by omega)
      obtain ⟨s0, e0, _, w0⟩ := DataW.trod_string Yba.underlying9 t0
      obtain ⟨s1, e1, _, w1⟩ := DataW.trod_string Yba.underlying9 t1
      exact ⟨(s0, s1), by simpa using e0, by simpa using e1, w0, w1⟩)
    have hE : ∀ i, i < len0 → edge ((List.range len0).map q) i = q i := fun i hi => by
      simp [edge, List.getD_eq_getElem?_getD, List.getElem?_map, List.getElem?_range hi]
    refine ⟨(List.range len0).map q, some a, cap0, by simp, ?_, ?_⟩
    · by_cases h0 : len0 = 0
      · left
        simp [h0]
      · right
        obtain ⟨b, off, spot⟩ := a
        have hspot : spot = none := by simpa [Addr.add] using World.cell?_spot (hx 0 (by omega)).1
        subst hspot
        refine ⟨b, off, rfl, fun i hi => ?_⟩
        have hi' : i < len0 := by simpa using hi
        obtain ⟨c0, c1, _, _⟩ := hx i (by omega)
        obtain ⟨e0, e1, _⟩ := hq i hi'
        rw [add_plain] at c0 c1
        rw [e0] at c0
        rw [e1] at c1
        rw [hE i hi']
        exact ⟨c0, by rw [Nat.add_assoc]; exact c1⟩
    · intro i hi
      have hi' : i < len0 := by simpa using hi
      rw [hE i hi']
      exact (hq i hi').2.2
end Go.Proofs.Ybulkbeuk.Adm
