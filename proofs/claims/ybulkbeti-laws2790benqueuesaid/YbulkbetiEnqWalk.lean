/- The walk of LawS2790BEnqueue. -/
import Derived.Test.YbulkbetiEnqC
namespace Go.Proofs.Ybulkbeti.Enq
open Go.ChangeShapes Go.WideShapes Go.ChangeAt Go.RowKit
set_option linter.unusedVariables false

set_option maxRecDepth 100000 in
set_option maxHeartbeats 3200000 in
theorem walk (bf nf hf wf sf inf sub : Int) (cl : Bool) (h1 : 0 ≤ bf ∧ bf ≤ 255) (h2 : 0 ≤ nf ∧ nf ≤ 255) (h3 : 0 ≤ hf ∧ hf ≤ 255) (h4 : 0 ≤ wf ∧ wf ≤ 255) (h5 : 0 ≤ sf ∧ sf ≤ 255) (h6 : 0 ≤ inf ∧ inf ≤ 255) (w : World) :
    Calls Yba.prog 3 #[.agg #[.int .u8 bf, .int .u8 nf, .int .u8 hf, .int .u8 wf, .int .u8 sf, .int .u8 inf, .bool cl, .int .i64 sub]] w fun e w' => e = .returned (.bool true) ∧ Below w.heap.size w w' := by
  obtain ⟨h1a, h1b⟩ := h1
  obtain ⟨h2a, h2b⟩ := h2
  obtain ⟨h3a, h3b⟩ := h3
  obtain ⟨h4a, h4b⟩ := h4
  obtain ⟨h5a, h5b⟩ := h5
  obtain ⟨h6a, h6b⟩ := h6
  have hmc := mkChan
  go_enter Yba.func3, Yba.ntmps3
  go_upto_if 45 with fail
  go_cut [3, 4, 5, 6, 7, 8] from 21 (fun s3 s4 s5 s6 s7 s8 wc => ∃ (bu wt sg n hd : Int) (size : Nat), s3 = .int .i64 bu ∧ s4 = .int .i64 wt ∧ s5 = .int .i64 sg ∧ s6 = .int .i64 (size : Int) ∧ s7 = .int .i64 n ∧ s8 = .int .i64 hd ∧
    (0 ≤ bu ∧ bu ≤ 15) ∧ (0 ≤ wt ∧ wt ≤ 7) ∧ (0 ≤ sg ∧ sg ≤ wt) ∧ (0 ≤ n ∧ n ≤ bu + wt) ∧ (0 ≤ hd ∧ (hd < bu + wt ∨ bu + wt = 0 ∧ hd = 0)) ∧ Hid ((size : Int) = bu + wt) ∧
    wc = w.alloc (.cells #[.int .u8 bf, .int .u8 nf, .int .u8 hf, .int .u8 wf, .int .u8 sf, .int .u8 inf, .bool cl, .int .i64 sub] 23))
  case first =>
    have hsz : ((bf % 16 + wf % 8).toNat : Int) = bf % 16 + wf % 8 := by omega
    by_cases hz : 0 < bf % 16 + wf % 8
    · go_wp2
      go_meet
      case rel => exact ⟨_, _, _, _, _, (bf % 16 + wf % 8).toNat, rfl, rfl, rfl, by rw [hsz], rfl, rfl, by omega, by omega, ⟨Int.emod_nonneg _ (by omega), by have := Int.emod_lt_of_pos sf (show 0 < wf % 8 + 1 by omega); omega⟩, ⟨Int.emod_nonneg _ (by omega), by have := Int.emod_lt_of_pos nf (show 0 < bf % 16 + wf % 8 + 1 by omega); omega⟩, ⟨Int.emod_nonneg _ (by omega), .inl (Int.emod_lt_of_pos _ hz)⟩, hsz, rfl⟩
    · go_wp2
      go_meet
      case rel => exact ⟨_, _, _, _, _, (bf % 16 + wf % 8).toNat, rfl, rfl, rfl, by rw [hsz], rfl, rfl, by omega, by omega, ⟨Int.emod_nonneg _ (by omega), by have := Int.emod_lt_of_pos sf (show 0 < wf % 8 + 1 by omega); omega⟩, ⟨Int.emod_nonneg _ (by omega), by have := Int.emod_lt_of_pos nf (show 0 < bf % 16 + wf % 8 + 1 by omega); omega⟩, ⟨by omega, .inr ⟨by omega, rfl⟩⟩, hsz, rfl⟩
  case rest =>
    obtain ⟨bu, wt, sg, n, hd, size, rfl, rfl, rfl, rfl, rfl, rfl, ⟨b0, b1⟩, ⟨t0, t1⟩, ⟨g0, g1⟩, ⟨n0, n1⟩, ⟨d0, d1⟩, HS, rfl⟩ := hcut
    have hmt := mkTasks size (by have := HS.out; omega)
    have D1 := Pool.hidMk d1
    clear d1
    go_upto_region 16 with fail
    go_cut [1, 9] from 21 (fun s1 s9 wc => ∃ ib b tb : Nat, s1 = .pointer (some ⟨ib, 0, none⟩) ∧ s9 = .pointer (some ⟨b, 0, none⟩) ∧ ∃ pc, St w wc ib b tb size inf sub cl pc (fun _ => .nilFunc) ∧
      pc 4 = .int .i64 bu ∧ pc 6 = .int .i32 0 ∧ pc 8 = .slice (some ⟨tb, 0, none⟩) size size ∧ pc 9 = .int .i64 hd ∧ pc 10 = .int .i64 n ∧ pc 11 = .bool cl ∧ pc 13 = .int .u32 0 ∧ pc 14 = .int .u32 0 ∧ pc 18 = .int .u64 0 ∧ pc 19 = .int .i64 wt ∧ pc 20 = .int .i64 sg ∧ pc 27 = .int .i64 0 ∧ pc 29 = .int .i64 0)
    case first =>
      refine Send.wp_of_runsTo ?_
      show Send.RunsTo _ _ _ [0, 1, 2, 3, 4, 5] _ _
      refine Send.RunsTo.value (o := _) (v := .pointer (some ⟨w.heap.size + 1, 0, none⟩)) rfl rfl (by simp [go_sem, execOp, Act.eval]; rfl) ?_
      simp only [List.getElem_toArray, List.getElem_cons_zero, Act.put, List.setIfInBounds_toArray, List.set_cons_succ, List.set_cons_zero]
      refine Send.RunsTo.value (o := _) (v := .pointer (some ⟨w.heap.size + 1, 0, none⟩)) rfl rfl (by simp [go_sem, execOp, Act.eval]; rfl) ?_
      simp only [List.getElem_toArray, List.getElem_cons_succ, List.getElem_cons_zero, Act.put, List.setIfInBounds_toArray, List.set_cons_succ, List.set_cons_zero]
      refine Send.RunsTo.value (o := _) (v := .pointer (some ⟨w.heap.size + 1, 21, none⟩)) rfl rfl (by simp [go_sem, execOp, Act.eval]; rfl) ?_
      simp only [List.getElem_toArray, List.getElem_cons_succ, List.getElem_cons_zero, Act.put, List.setIfInBounds_toArray, List.set_cons_succ, List.set_cons_zero]
      refine Send.RunsTo.value (o := _) (v := .chan (some (w.heap.size + 1 + 1 + 1))) rfl rfl (by simp [go_sem, execOp, Act.eval]; rfl) ?_
      simp only [List.getElem_toArray, List.getElem_cons_succ, List.getElem_cons_zero, Act.put, List.setIfInBounds_toArray, List.set_cons_succ, List.set_cons_zero]
      refine Send.RunsTo.value (o := _) (v := .agg #[]) rfl rfl (by simp [go_sem, execOp, Act.eval]; rfl) ?_
      simp only [List.getElem_toArray, List.getElem_cons_succ, List.getElem_cons_zero, Act.put, List.setIfInBounds_toArray, List.set_cons_succ, List.set_cons_zero]
      refine Send.RunsTo.send (c := w.heap.size + 1 + 1 + 1) (v := .agg #[]) (z := .tuple #[]) (cap := 1) (buf := #[]) (s := 0) (r := 0) (tm := false) rfl rfl (by simp [go_sem, execOp, Act.eval, Conc.scase]; rfl) (by simpa only [World.size_alloc] using heap_alloc_new (((w.alloc _).alloc _).alloc _) (.chan 1 #[] false 0 0 false)) (by simp) ?_
      refine Send.RunsTo.nil ?_
      simp only [List.getElem_toArray, List.getElem_cons_succ, List.getElem_cons_zero, Act.put]
      go_wp2
      go_meet
      case rel => exact ⟨w.heap.size, w.heap.size + 1, w.heap.size + 1 + 1, rfl, rfl, _, st_made w bf nf hf wf sf inf sub cl bu wt sg n hd size, rfl, rfl, rfl, rfl, rfl, rfl, rfl, rfl, rfl, rfl, rfl, rfl, rfl⟩
    case rest =>
      obtain ⟨ib, b, tb, rfl, rfl, pc, st, p4, p6, p8, p9, p10, p11, p13, p14, p18, p19, p20, p27, p29⟩ := hcut
      go_step
      exact part2 w _ ib b tb size inf sub bu wt sg n hd cl pc _ _ _ _ _ _ _ _ _ _ _ _ _ _ _ _ _ _ _ _ _ _ _ _ _ _ _ _ _ _ _ _ _ _ _ _ _ _ _ _ _ _ _ _ _ _ _ _ _ _ _ _ _ _ _ _ _ _ _ _ _ _ _ _ _ _ _ _ _ _ _ _ _ _ _ _ _ _ _ _ _ _ _ _ _ _ _ _ _ _ _ _ _ _ _ _ _ _ _ _ _ _ _ _ _ _ _ _ _ _ _ _ _ _ _ _ _ _ _ _ _ _ _ _ _ _ _ _ _ _ _ _ _ _ _ _ _ _ _ _ _ _ _ _ _ _ _ _ _ _ _ _ _ _ _ _ _ _ _ _ _ _ _ _ _ _ _ _ _ _ _ _ _ _ _ _ _ _ _ _ _ _ _ _ _ _ _ _ _ _ _ _ _ _ _ _ _ _ _ _ _ _ _ _ _ _ _ _ _ _ _ _ _ _ _ _ _ _ _ _ _ _ _ _ _ _ _ _ _ _ _ _ _ _ _ _ _ _ _ _ _ _ _ _ _ _ _ _ _ _ _ _ _ _ h6a h6b b0 b1 t0 t1 g0 g1 n0 n1 d0 D1 HS st p4 p6 p8 p9 p10 p11 p13 p14 p18 p19 p20 p27 p29
end Go.Proofs.Ybulkbeti.Enq
