/- What the walk of LawS2790BEnqueue has in hand of memory: the pool, the ring, the input's box. -/
import Derived.Test.YbulkbetiPool
import Derived.Test.YbulkbetiSend
namespace Go.Proofs.Ybulkbeti.Enq
open Go.ChangeShapes Go.WideShapes Go.ChangeAt Go.RowKit

theorem mkChan (w : World) : (Instr.makeChan 51 (.int .i64 1)).run Yba.prog w = .ok (.chan (some w.heap.size)) (w.alloc (.chan 1 #[] false 0 0 false)) := by
  have h : (Yba.prog.info? 31).map (fun i => i.bytes) = some 0 := by kernel_rfl
  obtain ⟨i, hi, hb⟩ := Option.map_eq_some_iff.1 h
  simpa using Conc.run_makeChan (P := Yba.prog) (w := w) Yba.underlying51 hi .i64 1 (by omega) (by rw [hb]; omega)

/-- the ring's cells as make lays them -/
def tks (n : Nat) : Array Value := madeCells #[.nilFunc] n
theorem mkTasks (n : Nat) (hn : n ≤ 100) (w : World) : (Instr.makeSlice 38 (.int .i64 (n : Int)) (.int .i64 (n : Int))).run Yba.prog w = .ok (.slice (some ⟨w.heap.size, 0, none⟩) n n) (w.alloc (.cells (tks n) 63)) := by
  have h : (Yba.prog.info? 63).map (fun i => (i.zero, i.size, i.bytes)) = some (some .nilFunc, 1, 8) := by kernel_rfl
  obtain ⟨i, hi, hzz⟩ := Option.map_eq_some_iff.1 h
  simp only [Prod.mk.injEq] at hzz
  obtain ⟨hz, hs, hb⟩ := hzz
  have hr := run_make (P := Yba.prog) w 38 63 i .nilFunc Yba.underlying38 hi hz .i64 .i64 n n (by omega) (Int.le_refl _) (by rw [hb]; omega) (by omega)
  simp only [Int.toNat_natCast, hs, Nat.mul_one] at hr
  exact hr

/-- what the walk has in hand behind the pool's making: pc: the pool's cells, tk: the ring's -/
structure St (w0 wc : World) (ib b tb size : Nat) (inf sub0 : Int) (cl : Bool) (pc tk : Nat → Value) : Prop where
  below : Below w0.heap.size w0 wc
  lib : w0.heap.size ≤ ib
  lb : w0.heap.size ≤ b
  ltb : w0.heap.size ≤ tb
  uib : ib < wc.heap.size
  ub : b < wc.heap.size
  utb : tb < wc.heap.size
  n1 : ¬ ib = b
  n2 : ¬ ib = tb
  n3 : ¬ tb = b
  i5 : wc.cell? ⟨ib, 5, none⟩ = some (.int .u8 inf)
  i6 : wc.cell? ⟨ib, 6, none⟩ = some (.bool cl)
  i7 : wc.cell? ⟨ib, 7, none⟩ = some (.int .i64 sub0)
  c : ∀ k, k < 31 → wc.cell? ⟨b, k, none⟩ = some (pc k)
  tks : ∀ i, i < size → wc.cell? ⟨tb, i, none⟩ = some (tk i)
  fz : ∀ k, wc.frozen? ⟨b, k, none⟩ = false
  ft : ∀ k, wc.frozen? ⟨tb, k, none⟩ = false

def upd (f : Nat → Value) (k : Nat) (v : Value) : Nat → Value := fun j => if j = k then v else f j

section
variable {w0 wc : World} {ib b tb size : Nat} {inf sub0 : Int} {cl : Bool} {pc tk : Nat → Value}

theorem St.drew (h : St w0 wc ib b tb size inf sub0 cl pc tk) : St w0 wc.drew ib b tb size inf sub0 cl pc tk :=
  { h with below := h.below.drew }

theorem St.set (h : St w0 wc ib b tb size inf sub0 cl pc tk) (k : Nat) (hk : k < 31) (v : Value) : St w0 (wc.setCell ⟨b, k, none⟩ v) ib b tb size inf sub0 cl (upd pc k v) tk :=
  { below := h.below.setCell h.lb v, lib := h.lib, lb := h.lb, ltb := h.ltb, uib := by simpa using h.uib, ub := by simpa using h.ub, utb := by simpa using h.utb, n1 := h.n1, n2 := h.n2, n3 := h.n3
    i5 := by rw [World.cell?_setCell_other _ _ _ _ (by simp; exact fun e => (h.n1 e.symm).elim)]; exact h.i5
    i6 := by rw [World.cell?_setCell_other _ _ _ _ (by simp; exact fun e => (h.n1 e.symm).elim)]; exact h.i6
    i7 := by rw [World.cell?_setCell_other _ _ _ _ (by simp; exact fun e => (h.n1 e.symm).elim)]; exact h.i7
    c := fun j hj => by
      by_cases e : j = k
      · subst e
        rw [World.cell?_setCell_same _ _ _ (h.c j hj)]
        simp [upd]
      · rw [World.cell?_setCell_other _ _ _ _ (by simp), h.c j hj]
        simp [upd, e]
    tks := fun i hi => by rw [World.cell?_setCell_other _ _ _ _ (by simp; exact fun e => (h.n3 e.symm).elim)]; exact h.tks i hi
    fz := fun j => by rw [World.frozen?_setCell]; exact h.fz j
    ft := fun j => by rw [World.frozen?_setCell]; exact h.ft j }

theorem St.setT (h : St w0 wc ib b tb size inf sub0 cl pc tk) (k : Nat) (hk : k < size) (v : Value) : St w0 (wc.setCell ⟨tb, k, none⟩ v) ib b tb size inf sub0 cl pc (upd tk k v) :=
  { below := h.below.setCell h.ltb v, lib := h.lib, lb := h.lb, ltb := h.ltb, uib := by simpa using h.uib, ub := by simpa using h.ub, utb := by simpa using h.utb, n1 := h.n1, n2 := h.n2, n3 := h.n3
    i5 := by rw [World.cell?_setCell_other _ _ _ _ (by simp; exact fun e => (h.n2 e.symm).elim)]; exact h.i5
    i6 := by rw [World.cell?_setCell_other _ _ _ _ (by simp; exact fun e => (h.n2 e.symm).elim)]; exact h.i6
    i7 := by rw [World.cell?_setCell_other _ _ _ _ (by simp; exact fun e => (h.n2 e.symm).elim)]; exact h.i7
    tks := fun j hj => by
      by_cases e : j = k
      · subst e
        rw [World.cell?_setCell_same _ _ _ (h.tks j hj)]
        simp [upd]
      · rw [World.cell?_setCell_other _ _ _ _ (by simp), h.tks j hj]
        simp [upd, e]
    c := fun i hi => by rw [World.cell?_setCell_other _ _ _ _ (by simp; exact fun e => (h.n3 e).elim)]; exact h.c i hi
    fz := fun j => by rw [World.frozen?_setCell]; exact h.fz j
    ft := fun j => by rw [World.frozen?_setCell]; exact h.ft j }

theorem cell_alloc (w : World) (o : Obj) (bb k : Nat) (h : bb < w.heap.size) : (w.alloc o).cell? ⟨bb, k, none⟩ = w.cell? ⟨bb, k, none⟩ := World.cell?_of_block (w := w) (Below.heap_alloc w o bb h)
theorem frozen_alloc (w : World) (o : Obj) (bb k : Nat) (h : bb < w.heap.size) : (w.alloc o).frozen? ⟨bb, k, none⟩ = w.frozen? ⟨bb, k, none⟩ := World.frozen?_of_block (w := w) (Below.heap_alloc w o bb h)

theorem St.alloc (h : St w0 wc ib b tb size inf sub0 cl pc tk) (o : Obj) : St w0 (wc.alloc o) ib b tb size inf sub0 cl pc tk :=
  { below := h.below.alloc h.below.size o, lib := h.lib, lb := h.lb, ltb := h.ltb, uib := by have := h.uib; simp; omega, ub := by have := h.ub; simp; omega, utb := by have := h.utb; simp; omega, n1 := h.n1, n2 := h.n2, n3 := h.n3
    i5 := by rw [cell_alloc _ _ _ _ h.uib]; exact h.i5
    i6 := by rw [cell_alloc _ _ _ _ h.uib]; exact h.i6
    i7 := by rw [cell_alloc _ _ _ _ h.uib]; exact h.i7
    c := fun k hk => by rw [cell_alloc _ _ _ _ h.ub]; exact h.c k hk
    tks := fun k hk => by rw [cell_alloc _ _ _ _ h.utb]; exact h.tks k hk
    fz := fun k => by rw [frozen_alloc _ _ _ _ h.ub]; exact h.fz k
    ft := fun k => by rw [frozen_alloc _ _ _ _ h.utb]; exact h.ft k }

/-- a cell of a fourth block is written: the calls counter -/
theorem St.setO (h : St w0 wc ib b tb size inf sub0 cl pc tk) (ob k : Nat) (h0 : w0.heap.size ≤ ob) (h1 : ¬ ib = ob) (h2 : ¬ b = ob) (h3 : ¬ tb = ob) (v : Value) : St w0 (wc.setCell ⟨ob, k, none⟩ v) ib b tb size inf sub0 cl pc tk :=
  { below := h.below.setCell h0 v, lib := h.lib, lb := h.lb, ltb := h.ltb, uib := by simpa using h.uib, ub := by simpa using h.ub, utb := by simpa using h.utb, n1 := h.n1, n2 := h.n2, n3 := h.n3
    i5 := by rw [World.cell?_setCell_other _ _ _ _ (by simp)]; exact h.i5
    i6 := by rw [World.cell?_setCell_other _ _ _ _ (by simp)]; exact h.i6
    i7 := by rw [World.cell?_setCell_other _ _ _ _ (by simp)]; exact h.i7
    c := fun k hk => by rw [World.cell?_setCell_other _ _ _ _ (by simp)]; exact h.c k hk
    tks := fun k hk => by rw [World.cell?_setCell_other _ _ _ _ (by simp)]; exact h.tks k hk
    fz := fun j => by rw [World.frozen?_setCell]; exact h.fz j
    ft := fun j => by rw [World.frozen?_setCell]; exact h.ft j }
end

theorem St.at {w0 wc : World} {ib b tb size : Nat} {inf sub0 : Int} {cl : Bool} {pc tk : Nat → Value} (h : St w0 wc ib b tb size inf sub0 cl pc tk) (k : Nat) (v : Value) (hv : pc k = v) (hk : k < 31) : wc.cell? ⟨b, k, none⟩ = some v := by
  rw [h.c k hk, hv]

theorem cellAt {w : World} {b : Nat} {c : Array Value} {t : TypeId} (h : w.heap[b]? = some (.cells c t)) (k : Nat) : w.cell? ⟨b, k, none⟩ = c[k]? := by
  simp [World.cell?, h]
theorem frozenAt {w : World} {b : Nat} {c : Array Value} {t : TypeId} (h : w.heap[b]? = some (.cells c t)) (k : Nat) : w.frozen? ⟨b, k, none⟩ = false := by
  simp [World.frozen?, h]

/-- the pool's cells as the law lays them -/
def made (B size : Nat) (bu hd n wt sg : Int) (cl : Bool) (k : Nat) : Value :=
  (#[.pointer none, .nilIface, .nilFunc, .int .i64 0, .int .i64 bu, .pointer none, .int .i32 0, .int .u32 0, .slice (some ⟨B + 1 + 1, 0, none⟩) size size, .int .i64 hd, .int .i64 n, .bool cl,
    .iface 60 (.pointer (some ⟨B + 1, 6, none⟩)), .int .u32 0, .int .u32 0, .int .u64 0, .pointer none, .pointer none, .int .u64 0, .int .i64 wt, .int .i64 sg, .chan (some (B + 1 + 1 + 1)), .int .i32 0, .int .i64 0,
    .int .i64 0, .chan none, .int .i64 0, .int .i64 0, .int .i64 0, .int .i64 0, .int .i64 0] : Array Value).getD k undef

theorem st_made (w : World) (bf nf hf wf sf inf sub : Int) (cl : Bool) (bu wt sg n hd : Int) (size : Nat) :
    St w (((((w.alloc (.cells #[.int .u8 bf, .int .u8 nf, .int .u8 hf, .int .u8 wf, .int .u8 sf, .int .u8 inf, .bool cl, .int .i64 sub] 23)).alloc
      (.cells #[.pointer none, .nilIface, .nilFunc, .int .i64 0, .int .i64 bu, .pointer none, .int .i32 0, .int .u32 0, .slice (some ⟨w.heap.size + 1 + 1, 0, none⟩) size size, .int .i64 hd, .int .i64 n, .bool cl,
        .iface 60 (.pointer (some ⟨w.heap.size + 1, 6, none⟩)), .int .u32 0, .int .u32 0, .int .u64 0, .pointer none, .pointer none, .int .u64 0, .int .i64 wt, .int .i64 sg, .chan (some (w.heap.size + 1 + 1 + 1)), .int .i32 0, .int .i64 0,
        .int .i64 0, .chan none, .int .i64 0, .int .i64 0, .int .i64 0, .int .i64 0, .int .i64 0] 59)).alloc (.cells (tks size) 63)).alloc (.chan 1 #[] false 0 0 false)).setChan (w.heap.size + 1 + 1 + 1) 1 (#[].push (.agg #[])) false (0 + 1) 0 false)
      w.heap.size (w.heap.size + 1) (w.heap.size + 1 + 1) size inf sub cl (made w.heap.size size bu hd n wt sg cl) (fun _ => .nilFunc) := by
  generalize hc0 : (#[.int .u8 bf, .int .u8 nf, .int .u8 hf, .int .u8 wf, .int .u8 sf, .int .u8 inf, .bool cl, .int .i64 sub] : Array Value) = c0
  generalize hc1 : (#[.pointer none, .nilIface, .nilFunc, .int .i64 0, .int .i64 bu, .pointer none, .int .i32 0, .int .u32 0, .slice (some ⟨w.heap.size + 1 + 1, 0, none⟩) size size, .int .i64 hd, .int .i64 n, .bool cl,
        .iface 60 (.pointer (some ⟨w.heap.size + 1, 6, none⟩)), .int .u32 0, .int .u32 0, .int .u64 0, .pointer none, .pointer none, .int .u64 0, .int .i64 wt, .int .i64 sg, .chan (some (w.heap.size + 1 + 1 + 1)), .int .i32 0, .int .i64 0,
        .int .i64 0, .chan none, .int .i64 0, .int .i64 0, .int .i64 0, .int .i64 0, .int .i64 0] : Array Value) = c1
  generalize hW : ((((w.alloc (.cells c0 23)).alloc (.cells c1 59)).alloc (.cells (tks size) 63)).alloc (.chan 1 #[] false 0 0 false)).setChan (w.heap.size + 1 + 1 + 1) 1 (#[].push (.agg #[])) false (0 + 1) 0 false = W
  have e0 : W.heap[w.heap.size]? = some (.cells c0 23) := by
    rw [← hW]
    simp only [World.setChan]
    rw [Array.getElem?_setIfInBounds_ne (by omega), Below.heap_alloc _ _ _ (by simp; omega), Below.heap_alloc _ _ _ (by simp; omega), Below.heap_alloc _ _ _ (by simp), heap_alloc_new]
  have e1 : W.heap[w.heap.size + 1]? = some (.cells c1 59) := by
    rw [← hW]
    simp only [World.setChan]
    rw [Array.getElem?_setIfInBounds_ne (by omega), Below.heap_alloc _ _ _ (by simp), Below.heap_alloc _ _ _ (by simp)]
    simpa only [World.size_alloc] using heap_alloc_new (w.alloc (.cells c0 23)) (.cells c1 59)
  have e2 : W.heap[w.heap.size + 1 + 1]? = some (.cells (tks size) 63) := by
    rw [← hW]
    simp only [World.setChan]
    rw [Array.getElem?_setIfInBounds_ne (by omega), Below.heap_alloc _ _ _ (by simp)]
    simpa only [World.size_alloc] using heap_alloc_new ((w.alloc (.cells c0 23)).alloc (.cells c1 59)) (.cells (tks size) 63)
  have hsz : W.heap.size = w.heap.size + 1 + 1 + 1 + 1 := by rw [← hW]; simp [World.setChan]
  have hbel : Below w.heap.size w W := by
    rw [← hW]
    exact Conc.below_setChan (((((Below.refl _ _).alloc (Nat.le_refl _) _).alloc (by simp) _).alloc (by simp; omega) _).alloc (by simp; omega) _) (by omega) _ _ _ _ _ _
  exact
    { below := hbel, lib := Nat.le_refl _, lb := by omega, ltb := by omega, uib := by omega, ub := by omega, utb := by omega, n1 := by omega, n2 := by omega, n3 := by omega
      i5 := by rw [cellAt e0, ← hc0]; rfl
      i6 := by rw [cellAt e0, ← hc0]; rfl
      i7 := by rw [cellAt e0, ← hc0]; rfl
      c := fun k hk => by
        rw [cellAt e1]
        have hs : c1.size = 31 := by rw [← hc1]; rfl
        simp only [made, hc1]
        rw [Array.getElem?_eq_getElem (by omega), Array.getD, dif_pos (by omega)]
        rfl
      tks := fun i hi => by rw [cellAt e2]; simp [tks, madeCells, hi, Nat.mod_one]
      fz := frozenAt e1
      ft := frozenAt e2 }


theorem relock (w : World) (b o : Nat) (u v : Value) (h : w.cell? ⟨b, o, none⟩ = some u) : (w.setCell ⟨b, o, none⟩ v).setCell ⟨b, o, none⟩ u = w := by
  have h1 : (w.setCell ⟨b, o, none⟩ v).setCell ⟨b, o, none⟩ u = w.setCell ⟨b, o, none⟩ u := by
    simp only [World.setCell]
    congr 1
    apply Array.ext_getElem?
    intro i
    simp only [Array.getElem?_modify]
    by_cases e : b = i
    · subst e
      simp only [if_true]
      cases w.heap[b]? with
      | none => rfl
      | some ob => cases ob <;> simp
    · simp [e]
  rw [h1]
  exact Pool.setCell_self _ _ _ _ h
end Go.Proofs.Ybulkbeti.Enq
