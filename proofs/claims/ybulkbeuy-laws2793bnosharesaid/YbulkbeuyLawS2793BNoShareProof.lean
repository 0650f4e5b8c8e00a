/- The proof of 'Rows.LawS2793BNoShareSaid': the guide's own frame for this function; the walk: YbulkbeuyShare. -/
import Derived.Test.YbulkbeuyShare
import Derived.Deep.SlicePairs
import Derived.ChangeSlices
import Derived.OpenShut
import Derived.SizedLaws
import Derived.ChangeOld
namespace Go.Proofs.Ybulkbeuy.lawS2793BNoShare
open Go.ChangeShapes Go.WideShapes Go.ChangeAt Go.RowKit Go.Deep
open Sh (ent EAt Bytes)
set_option linter.unusedVariables false
set_option linter.unusedSimpArgs false

theorem own : ownKnob Yba.prog.godebug = none := by kernel_rfl
theorem laidOut : laidOutB Yba.prog = true := by kernel_rfl

theorem byte_of {n : Int} (h : (Lit.int .u8 n).wf = true) : 0 ≤ n ∧ n ≤ 255 := by
  simp only [Lit.wf, Bool.and_eq_true, decide_eq_true_eq] at h
  exact h

theorem weights_all {H : Type} {n : Nat} {e : TypeId} {x : DataW H} (hn : n ∈ x.weights Yba.prog e) : ∀ (l : List (DataW H)), x ∈ l → n ∈ DataW.weightsAll Yba.prog e l := by
  intro l
  induction l with
  | nil => intro h; cases h
  | cons y r ih =>
    intro h
    rw [DataW.weightsAll]
    rcases List.mem_cons.1 h with rfl | h
    · exact List.mem_append_left _ hn
    · exact List.mem_append_right _ (ih h)

theorem bytes_of {H : Type} {enc : TypeId × Value → H} {W : World} {base n : Nat} {u : Value} {x : DataW H × List MemPlace} (h : DataW.trod enc Yba.prog W base (fun _ => true) true n 23 [u] = some x) : ∃ zs, Bytes W u zs := by
  rcases open_ints Yba.underlying23 Yba.underlying5 (by kernel_rfl) h with ⟨hcs, _⟩ | ⟨a, len, cap, zs, hcs, _, hl, hm, hz, _, hcell, hwz⟩
  · simp at hcs
    subst hcs
    exact ⟨[], none, 0, rfl, fun _ => rfl, .inl rfl, fun i hi => by simp at hi⟩
  · simp at hcs
    subst hcs
    have hlm : len ≤ zs.length := by rw [hz]; simpa using hl
    have hget : ∀ i, i < len → (zs.take len).getD i 0 = zs.getD i 0 := fun i hi => by
      simp [List.getD_eq_getElem?_getD, List.getElem?_take, hi]
    have hlen : (zs.take len).length = len := by simp; omega
    refine ⟨zs.take len, some a, cap, by rw [hlen], (fun h => by cases h), ?_, ?_⟩
    · by_cases h0 : len = 0
      · left
        rw [hlen, h0]
      · right
        obtain ⟨b, off, spot⟩ := a
        have hspot : spot = none := by simpa [Addr.add] using World.cell?_spot (hcell 0 (by omega))
        subst hspot
        refine ⟨b, off, rfl, fun i hi => ?_⟩
        rw [hlen] at hi
        rw [hget i hi, ← add_plain]
        exact hcell i (by omega)
    · intro i hi
      rw [hlen] at hi
      rw [hget i hi, List.getD_eq_getElem?_getD, List.getElem?_eq_getElem (by omega)]
      exact byte_of (hwz _ (List.getElem_mem _))

set_option maxRecDepth 100000 in
theorem open_ents {H : Type} {enc : TypeId × Value → H} {W : World} {base : Nat} {v : Value} {d : DataW H} {p : List MemPlace}
    (hv : Value.okWide Yba.prog W .any base 22 v) (h : DataW.Trod enc Yba.prog W 0 (fun _ => true) true 22 v d p) (hw : ∀ n ∈ d.weights Yba.prog 22, n ≤ reachBytes) :
    ∃ es, EAt W v es ∧ ∀ i, i < es.length → (ent es i).1.size ≤ 140737488351232 := by
  obtain ⟨a0, len0, cap0, rfl⟩ := okWide_slice Yba.underlying22 hv
  obtain ⟨fuel, hf⟩ := h
  rcases open_slice_pairs Yba.underlying22 Yba.underlying25 (by kernel_rfl) rfl rfl (by kernel_rfl) (by kernel_rfl) hf with ⟨hcs, _⟩ | ⟨a, len, cap, m, n, V0, V1, D0, D1, P0, P1, hcs, _, hl, hm, hmm, hd, hx⟩
  · simp [Value.cells] at hcs
    obtain ⟨rfl, rfl, rfl⟩ := hcs
    exact ⟨[], ⟨none, 0, rfl, fun _ => rfl, .inl rfl⟩, fun i hi => by simp at hi⟩
  · simp [Value.cells] at hcs
    obtain ⟨rfl, rfl, rfl⟩ := hcs
    have hlm : len0 ≤ m := by rw [hmm]; simpa using hl
    simp only [Prod.mk.injEq] at hd
    have hd1 := hd.1
    subst hd1
    obtain ⟨q, hq⟩ := choose_lt (n := len0) (α := ByteArray × List Int) (p := fun i q => V0 i = .string q.1 ∧ Bytes W (V1 i) q.2 ∧ q.1.size ≤ 140737488351232) (fun i hi => by
      obtain ⟨_, _, t0, t1⟩ := hx i (by omega)
      obtain ⟨s, e0, hD, w0⟩ := DataW.trod_string Yba.underlying9 t0
      obtain ⟨zs, hz⟩ := bytes_of t1
      refine ⟨(s, zs), by simpa using e0, hz, ?_⟩
      have hin : s.data.toList.length ∈ (DataW.agg [D0 i, D1 i]).weights Yba.prog 25 := by
        simp only [Prod.mk.injEq] at hD
        rw [DataW.weights, Yba.underlying25, hD.1]
        simp [DataW.weightsEach, DataW.weights]
      have := hw s.data.toList.length (by
        rw [DataW.weights, Yba.underlying22]
        refine List.mem_cons_of_mem _ (List.mem_append_left _ (weights_all hin _ ?_))
        exact List.mem_map.2 ⟨i, List.mem_range.2 hi, rfl⟩)
      have e : s.data.toList.length = s.size := by rw [Array.length_toList]; rfl
      rw [e] at this
      simpa [reachBytes] using this)
    have hE : ∀ i, i < len0 → ent ((List.range len0).map q) i = q i := fun i hi => by
      simp [ent, List.getD_eq_getElem?_getD, List.getElem?_map, List.getElem?_range hi]
    refine ⟨(List.range len0).map q, ⟨some a, cap0, by simp, (fun h => by cases h), ?_⟩, ?_⟩
    · by_cases h0 : len0 = 0
      · left
        simp [h0]
      · right
        obtain ⟨b, off, spot⟩ := a
        have hspot : spot = none := by simpa [Addr.add] using World.cell?_spot (hx 0 (by omega)).1
        subst hspot
        refine ⟨b, off, rfl, fun i hi => ?_⟩
        have hi' : i < len0 := by simpa using hi
        obtain ⟨c0, c1, _, _⟩ := hx i (by omega)
        obtain ⟨e0, e1, _⟩ := hq i hi'
        rw [add_plain] at c0 c1
        rw [e0] at c0
        rw [hE i hi']
        exact ⟨c0, V1 i, by rw [Nat.add_assoc]; exact c1, e1⟩
    · intro i hi
      have hi' : i < len0 := by simpa using hi
      rw [hE i hi']
      exact (hq i hi').2.2

set_option maxRecDepth 100000 in
theorem lifted (os : Os) (started : os.Started) (H : Type) (enc : TypeId × Value → H) :
    ReturnsInHanded {} Yba.checked os 4 .any (Rows.lawS2793BNoShareSpec.pre6 enc Yba.prog Yba.f4 Rows.lawS2793BNoShareRow.domain false) (Rows.lawS2793BNoShareSpec.post enc Yba.prog Yba.f4 false true false false) := by
  refine returnsInHanded_of_change_sized (C := Yba.checked) own started (by kernel_rfl) Yba.func4
    (ChangeSpec.witness6 (enc := enc) (C := Yba.checked) false ⟨#[], #[.slice none 0 0, .bool false], []⟩ 8 (by kernel_rfl) (by kernel_rfl) (by kernel_rfl) (by kernel_rfl)) ?_
  intro W base args ds gs before hval0 hW hcnd hsz0 _
  have hval : ∀ (j : Nat) t v, Yba.f4.params[j]? = some t → args[j]? = some v → Value.okWide Yba.prog W .any base t v := hval0
  have hsz : (DataW.weightsEach Yba.prog (Yba.f4.params.toList ++ Rows.lawS2793BNoShareSpec.plain.varTypes Yba.prog) (ds ++ gs)).all (· ≤ reachBytes) = true := hsz0
  have hW' := hW
  obtain ⟨p, q, hA0, hV, rfl, hfz, hnd⟩ := hW
  have hA : DataW.TrodAll enc Yba.prog W 0 (fun _ => true) true Yba.f4.params.toList args.toList ds p := hA0
  rw [Yba.params4] at hA hval hsz
  obtain ⟨v0, vs0, d0, ds0, p0, q0, hargs, rfl, rfl, h0, r0⟩ := trodAll_cons hA
  obtain ⟨v1, vs1, d1, ds1, p1, q1, rfl, rfl, rfl, h1, r1⟩ := trodAll_cons r0
  obtain ⟨rfl, rfl, rfl⟩ := trodAll_nil r1
  obtain rfl : args = #[v0, v1] := by cases args; simp_all
  obtain ⟨rfl, rfl⟩ := trodVars_none hV
  have k0 := h0
  have lt0 : ∀ x ∈ p0, x.block < W.heap.size := by obtain ⟨m, hm⟩ := k0; exact DataW.trod_lt m _ _ _ hm
  have hw0 : ∀ n ∈ d0.weights Yba.prog 22, n ≤ reachBytes := fun n hn => by
    have := List.all_eq_true.1 hsz n (DataW.weights_mem_each (j := 0) (t := 22) rfl rfl n hn)
    simpa using this
  obtain ⟨es, hE, hs⟩ := open_ents (hval 0 22 v0 rfl rfl) h0 hw0
  obtain ⟨held, rfl, rfl, rfl⟩ := open_bool Yba.underlying4 (hval 1 4 v1 rfl rfl) h1
  clear hA0 hval0
  refine (Sh.share_walk v0 held es W hE hs).mono fun e W' ⟨he, bel⟩ => ?_
  subst he
  exact ⟨_, rfl, _, _, _, [], _, [], hW', trodAll_mk1 (shut_bool Yba.underlying4 _), (trodAll_cons_mk (Below.trod laidOut (by kernel_rfl) (of_decide_eq_true (by kernel_rfl)) k0 bel lt0) (trodAll_cons_mk (shut_bool Yba.underlying4 _) trodAll_mk0)), rfl, bel.frame _, fun h => by cases h⟩

theorem over : Rows.lawS2793BNoShareRow.holds Yba.pinned (OpenSpec.ofChange Rows.lawS2793BNoShareSpec) :=
  OpenClaim.holds_of_wide 4 Yba.f4 rfl rfl rfl rfl rfl rfl rfl ⟨rfl, rfl, rfl, rfl, rfl⟩ rfl rfl rfl rfl rfl (by kernel_rfl) Yba.func4 (by kernel_rfl)
    (of_decide_eq_true (by kernel_rfl)) (by unfold Func.isWrapper; first | (rw [if_pos (by decide +kernel)]; kernel_rfl) | (rw [if_neg (by decide +kernel)]; exact ⟨rfl, rfl⟩))
    (fun os started H enc _ => lifted os started H enc)

/-- THE STATEMENT -/
theorem proved : Rows.LawS2793BNoShareSaid := over
end Go.Proofs.Ybulkbeuy.lawS2793BNoShare
