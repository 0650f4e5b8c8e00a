/- The proof of 'Rows.LawS2790BEnqueueSaid': the guide's own frame turned to one struct by value. -/
import Derived.Test.YbulkbetiEnqWalk
import Derived.OpenShut
namespace Go.Proofs.Ybulkbeti.lawS2790BEnqueue
open Go.ChangeShapes Go.WideShapes Go.ChangeAt Go.RowKit
set_option linter.unusedVariables false

theorem own : ownKnob Yba.prog.godebug = none := by kernel_rfl
theorem laidOut : laidOutB Yba.prog = true := by kernel_rfl
theorem cells23 : Yba.prog.cellsOf 23 = 8 := by kernel_rfl
theorem array8 {α : Type} {cs : Array α} (h : cs.size = 8) : ∃ c0 c1 c2 c3 c4 c5 c6 c7, cs = #[c0, c1, c2, c3, c4, c5, c6, c7] := by
  obtain ⟨l⟩ := cs
  match l, h with
  | [c0, c1, c2, c3, c4, c5, c6, c7], _ => exact ⟨c0, c1, c2, c3, c4, c5, c6, c7, rfl⟩

theorem byte_of {n : Int} (h : (Lit.int .u8 n).wf = true) : 0 ≤ n ∧ n ≤ 255 := by
  simp only [Lit.wf, Bool.and_eq_true, decide_eq_true_eq] at h
  exact h

set_option maxRecDepth 100000 in
theorem opened {H : Type} {enc : TypeId × Value → H} {W : World} {base : Nat} {v : Value} {d : DataW H} {p : List MemPlace}
    (hv : Value.okWide Yba.prog W .any base 23 v) (h : DataW.Trod enc Yba.prog W 0 (fun _ => true) true 23 v d p) :
    ∃ (bf nf hf wf sf inf sub : Int) (cl : Bool), v = .agg #[.int .u8 bf, .int .u8 nf, .int .u8 hf, .int .u8 wf, .int .u8 sf, .int .u8 inf, .bool cl, .int .i64 sub] ∧
      (0 ≤ bf ∧ bf ≤ 255) ∧ (0 ≤ nf ∧ nf ≤ 255) ∧ (0 ≤ hf ∧ hf ≤ 255) ∧ (0 ≤ wf ∧ wf ≤ 255) ∧ (0 ≤ sf ∧ sf ≤ 255) ∧ (0 ≤ inf ∧ inf ≤ 255) := by
  obtain ⟨cs, rfl, hsz⟩ := okWide_struct Yba.underlying23 hv
  have h8 : cs.size = 8 := by rw [hsz, cells23]
  obtain ⟨c0, c1, c2, c3, c4, c5, c6, c7, rfl⟩ := array8 h8
  obtain ⟨fuel, hf⟩ := h
  obtain ⟨xs, n, _, _, _, hlen, hfs⟩ := DataW.trod_struct Yba.underlying23 hf
  have k5 : Yba.prog.cellsOf 5 = 1 := by kernel_rfl
  have k4 : Yba.prog.cellsOf 4 = 1 := by kernel_rfl
  have k2 : Yba.prog.cellsOf 2 = 1 := by kernel_rfl
  have hl : xs.length = 8 := hlen
  match xs, hl with
  | [y0, y1, y2, y3, y4, y5, y6, y7], _ =>
    have t0 := hfs 0 _ rfl
    have t1 := hfs 1 _ rfl
    have t2 := hfs 2 _ rfl
    have t3 := hfs 3 _ rfl
    have t4 := hfs 4 _ rfl
    have t5 := hfs 5 _ rfl
    have t6 := hfs 6 _ rfl
    have t7 := hfs 7 _ rfl
    simp [Value.cells, k5, k4, k2] at t0 t1 t2 t3 t4 t5 t6 t7
    obtain ⟨x0, e0, _, w0⟩ := DataW.trod_int Yba.underlying5 t0
    obtain ⟨x1, e1, _, w1⟩ := DataW.trod_int Yba.underlying5 t1
    obtain ⟨x2, e2, _, w2⟩ := DataW.trod_int Yba.underlying5 t2
    obtain ⟨x3, e3, _, w3⟩ := DataW.trod_int Yba.underlying5 t3
    obtain ⟨x4, e4, _, w4⟩ := DataW.trod_int Yba.underlying5 t4
    obtain ⟨x5, e5, _, w5⟩ := DataW.trod_int Yba.underlying5 t5
    obtain ⟨x6, e6, _⟩ := DataW.trod_bool Yba.underlying4 t6
    obtain ⟨x7, e7, _, _⟩ := DataW.trod_int Yba.underlying2 t7
    simp at e0 e1 e2 e3 e4 e5 e6 e7
    subst e0 e1 e2 e3 e4 e5 e6 e7
    exact ⟨x0, x1, x2, x3, x4, x5, x7, x6, rfl, byte_of w0, byte_of w1, byte_of w2, byte_of w3, byte_of w4, byte_of w5⟩

set_option maxRecDepth 100000 in
theorem lifted (os : Os) (started : os.Started) (H : Type) (enc : TypeId × Value → H) :
    ReturnsInHanded {} Yba.checked os 3 .any (Rows.lawS2790BEnqueueSpec.pre6 enc Yba.prog Yba.f3 Rows.lawS2790BEnqueueRow.domain false) (Rows.lawS2790BEnqueueSpec.post enc Yba.prog Yba.f3 false true false false) := by
  refine returnsInHanded_of_change (C := Yba.checked) own started (by kernel_rfl) Yba.func3
    (ChangeSpec.witness6 (enc := enc) (C := Yba.checked) false ⟨#[], #[.agg #[.int .u8 0, .int .u8 0, .int .u8 0, .int .u8 0, .int .u8 0, .int .u8 0, .bool false, .int .i64 0]], []⟩ 8 (by kernel_rfl) (by kernel_rfl) (by kernel_rfl) (by kernel_rfl)) ?_
  intro W base args ds gs before hval0 hW hcnd _
  have hval : ∀ (j : Nat) t v, Yba.f3.params[j]? = some t → args[j]? = some v → Value.okWide Yba.prog W .any base t v := hval0
  have hW' := hW
  obtain ⟨p, q, hA0, hV, rfl, hfz, hnd⟩ := hW
  have hA : DataW.TrodAll enc Yba.prog W 0 (fun _ => true) true Yba.f3.params.toList args.toList ds p := hA0
  rw [Yba.params3] at hA hval
  obtain ⟨v0, vs0, d0, ds0, p0, q0, hargs, rfl, rfl, h0, r0⟩ := trodAll_cons hA
  obtain ⟨rfl, rfl, rfl⟩ := trodAll_nil r0
  obtain rfl : args = #[v0] := by cases args; simp_all
  obtain ⟨rfl, rfl⟩ := trodVars_none hV
  have k0 := h0
  have lt0 : ∀ x ∈ p0, x.block < W.heap.size := by obtain ⟨m, hm⟩ := k0; exact DataW.trod_lt m _ _ _ hm
  obtain ⟨bf, nf, hf, wf, sf, inf, sub, cl, rfl, b1, b2, b3, b4, b5, b6⟩ := opened (hval 0 23 v0 rfl rfl) h0
  clear hA0 hval0
  refine (Enq.walk bf nf hf wf sf inf sub cl b1 b2 b3 b4 b5 b6 W).mono fun e W' ⟨he, bel⟩ => ?_
  subst he
  exact ⟨_, rfl, _, _, _, [], _, [], hW', trodAll_mk1 (shut_bool Yba.underlying4 _), trodAll_cons_mk (Below.trod laidOut (by kernel_rfl) (of_decide_eq_true (by kernel_rfl)) k0 bel lt0) trodAll_mk0, rfl, bel.frame _, fun h => by cases h⟩

theorem over : Rows.lawS2790BEnqueueRow.holds Yba.pinned (OpenSpec.ofChange Rows.lawS2790BEnqueueSpec) :=
  OpenClaim.holds_of_wide 3 Yba.f3 rfl rfl rfl rfl rfl rfl rfl ⟨rfl, rfl, rfl, rfl, rfl⟩ rfl rfl rfl rfl rfl (by kernel_rfl) Yba.func3 (by kernel_rfl)
    (of_decide_eq_true (by kernel_rfl)) (by unfold Func.isWrapper; first | (rw [if_pos (by decide +kernel)]; kernel_rfl) | (rw [if_neg (by decide +kernel)]; exact ⟨rfl, rfl⟩))
    (fun os started H enc _ => lifted os started H enc)

/-- THE STATEMENT -/
theorem proved : Rows.LawS2790BEnqueueSaid :=
  over
end Go.Proofs.Ybulkbeti.lawS2790BEnqueue
