/- What holds behind the call of tryEnqueue, in its three cases. -/
import Derived.Test.YbulkbetiEnqA
namespace Go.Proofs.Ybulkbeti.Enq
open Go.ChangeShapes Go.WideShapes Go.ChangeAt Go.RowKit
set_option linter.unusedVariables false

/-- the calls counter's own block -/
structure Cb (w0 wd : World) (cb : Nat) : Prop where
  lo : w0.heap.size ≤ cb
  hi : cb < wd.heap.size
  c : wd.cell? ⟨cb, 0, none⟩ = some (.int .i64 0)
  f : wd.frozen? ⟨cb, 0, none⟩ = false
theorem Cb.drew {w0 wd : World} {cb : Nat} (h : Cb w0 wd cb) : Cb w0 wd.drew cb := ⟨h.lo, h.hi, h.c, h.f⟩
theorem Cb.set {w0 wd : World} {cb : Nat} (h : Cb w0 wd cb) (b k : Nat) (v : Value) (hne : ¬ b = cb) : Cb w0 (wd.setCell ⟨b, k, none⟩ v) cb :=
  ⟨h.lo, by simpa using h.hi, by rw [World.cell?_setCell_other _ _ _ _ (by simp)]; exact h.c, by rw [World.frozen?_setCell]; exact h.f⟩

/-- what holds behind the call of tryEnqueue -/
def RelC (w : World) (ib b tb size : Nat) (inf sub : Int) (cl : Bool) (bu wt sg n hd : Int) (s10 s12 : Value) (wd : World) : Prop :=
  ∃ (q : Bool) (cb : Nat) (n' sg' sub' it' : Int) (pc' tk' : Nat → Value), s10 = .pointer (some ⟨cb, 0, none⟩) ∧ s12 = .bool q ∧ St w wd ib b tb size inf sub cl pc' tk' ∧
    (pc' 4 = .int .i64 bu ∧ pc' 6 = .int .i32 0 ∧ pc' 8 = .slice (some ⟨tb, 0, none⟩) size size ∧ pc' 9 = .int .i64 hd ∧ pc' 10 = .int .i64 n' ∧ pc' 11 = .bool cl ∧ pc' 19 = .int .i64 wt ∧ pc' 20 = .int .i64 sg' ∧ pc' 22 = .int .i32 it' ∧ pc' 26 = .int .i64 sub' ∧ pc' 27 = .int .i64 0 ∧ pc' 29 = .int .i64 0) ∧
    Cb w wd cb ∧ (¬ ib = cb ∧ ¬ b = cb ∧ ¬ tb = cb) ∧
    ((q = false ∧ (n' = n ∧ sg' = sg ∧ sub' = sub ∧ tk' = (fun _ => .nilFunc)) ∧ ((cl = true ∧ it' = 2) ∨ (cl = false ∧ ¬ n < bu + wt ∧ it' = 1))) ∨
      (q = true ∧ ∃ slot : Nat, slot < size ∧ (slot : Int) = (hd + n) % (size : Int) ∧ n < bu + wt ∧ (cl = false ∧ n' = n + 1 ∧ sub' = wrap64 (sub + 1) ∧ tk' = upd (fun _ => .nilFunc) slot (.func (.func 8) #[] #[.pointer (some ⟨cb, 0, none⟩)])) ∧
        ((sg < wt ∧ sg' = sg + 1) ∨ (¬ sg < wt ∧ sg' = sg)) ∧ ((n + 1 < bu + wt ∧ it' = 0) ∨ (¬ n + 1 < bu + wt ∧ it' = 1))))

/-- the world at the call of tryEnqueue -/
def w21 (wc : World) (b : Nat) (inf sub : Int) : World :=
  (((wc.setCell ⟨b, 22, none⟩ (.int .i32 (inf % 3))).setCell ⟨b, 26, none⟩ (.int .i64 sub)).alloc (.cells #[.int .i64 0] 3)).drew.drew

section
variable {w wc : World} {ib b tb size : Nat} {inf sub : Int} {cl : Bool} {bu wt sg n hd : Int} {pc : Nat → Value}

theorem st21 (st : St w wc ib b tb size inf sub cl pc (fun _ => .nilFunc)) : St w (w21 wc b inf sub) ib b tb size inf sub cl (upd (upd pc 22 (.int .i32 (inf % 3))) 26 (.int .i64 sub)) (fun _ => .nilFunc) :=
  (((st.set 22 (by omega) (.int .i32 (inf % 3))).set 26 (by omega) (.int .i64 sub)).alloc (.cells #[.int .i64 0] 3)).drew.drew

theorem cb21 (st : St w wc ib b tb size inf sub cl pc (fun _ => .nilFunc)) : Cb w (w21 wc b inf sub) wc.heap.size := by
  have e : (w21 wc b inf sub).heap[wc.heap.size]? = some (.cells #[.int .i64 0] 3) := by
    have := heap_alloc_new ((wc.setCell ⟨b, 22, none⟩ (.int .i32 (inf % 3))).setCell ⟨b, 26, none⟩ (.int .i64 sub)) (.cells #[.int .i64 0] 3)
    simp only [World.size_setCell] at this
    exact this
  exact ⟨st.below.size, by simp [w21], by rw [cellAt e]; rfl, frozenAt e 0⟩

theorem ne21 (st : St w wc ib b tb size inf sub cl pc (fun _ => .nilFunc)) : ¬ ib = wc.heap.size ∧ ¬ b = wc.heap.size ∧ ¬ tb = wc.heap.size := by
  have h1 := st.uib
  have h2 := st.ub
  have h3 := st.utb
  exact ⟨by omega, by omega, by omega⟩

theorem rel_closed (st : St w wc ib b tb size inf sub true pc (fun _ => .nilFunc)) (p4 : pc 4 = .int .i64 bu) (p8 : pc 8 = .slice (some ⟨tb, 0, none⟩) size size) (p9 : pc 9 = .int .i64 hd) (p10 : pc 10 = .int .i64 n) (p11 : pc 11 = .bool true) (p19 : pc 19 = .int .i64 wt) (p20 : pc 20 = .int .i64 sg) (p27 : pc 27 = .int .i64 0) (p29 : pc 29 = .int .i64 0) :
    RelC w ib b tb size inf sub true bu wt sg n hd (.pointer (some ⟨wc.heap.size, 0, none⟩)) (.bool false) ((((w21 wc b inf sub).setCell ⟨b, 6, none⟩ (.int .i32 1)).setCell ⟨b, 22, none⟩ (.int .i32 2)).setCell ⟨b, 6, none⟩ (.int .i32 0)) := by
  obtain ⟨e1, e2, e3⟩ := ne21 st
  exact ⟨false, wc.heap.size, n, sg, sub, 2, _, _, rfl, rfl, (((st21 st).set 6 (by omega) _).set 22 (by omega) _).set 6 (by omega) _,
    by simp [upd, p4, p8, p9, p10, p11, p19, p20, p27, p29], (((cb21 st).set b 6 _ e2).set b 22 _ e2).set b 6 _ e2, ⟨e1, e2, e3⟩, .inl ⟨rfl, ⟨rfl, rfl, rfl, rfl⟩, .inl ⟨rfl, rfl⟩⟩⟩

theorem rel_full (hn : ¬ n < bu + wt) (st : St w wc ib b tb size inf sub false pc (fun _ => .nilFunc)) (p4 : pc 4 = .int .i64 bu) (p8 : pc 8 = .slice (some ⟨tb, 0, none⟩) size size) (p9 : pc 9 = .int .i64 hd) (p10 : pc 10 = .int .i64 n) (p11 : pc 11 = .bool false) (p19 : pc 19 = .int .i64 wt) (p20 : pc 20 = .int .i64 sg) (p27 : pc 27 = .int .i64 0) (p29 : pc 29 = .int .i64 0) :
    RelC w ib b tb size inf sub false bu wt sg n hd (.pointer (some ⟨wc.heap.size, 0, none⟩)) (.bool false) ((((w21 wc b inf sub).setCell ⟨b, 6, none⟩ (.int .i32 1)).setCell ⟨b, 22, none⟩ (.int .i32 1)).setCell ⟨b, 6, none⟩ (.int .i32 0)).drew.drew := by
  obtain ⟨e1, e2, e3⟩ := ne21 st
  exact ⟨false, wc.heap.size, n, sg, sub, 1, _, _, rfl, rfl, ((((st21 st).set 6 (by omega) _).set 22 (by omega) _).set 6 (by omega) _).drew.drew,
    by simp [upd, p4, p8, p9, p10, p11, p19, p20, p27, p29], ((((cb21 st).set b 6 _ e2).set b 22 _ e2).set b 6 _ e2).drew.drew, ⟨e1, e2, e3⟩, .inl ⟨rfl, ⟨rfl, rfl, rfl, rfl⟩, .inr ⟨rfl, hn, rfl⟩⟩⟩

theorem rel_room (q : Bool) (slot : Nat) (sg' v : Int) (hn : n < bu + wt) (hls : slot < size) (hslot : (slot : Int) = (hd + n) % (size : Int)) (hq : (q = false ∧ sg = wt ∧ sg' = sg) ∨ (q = true ∧ sg ≠ wt ∧ sg' = sg + 1)) (hg : sg ≤ wt) (hv : (n + 1 < bu + wt ∧ v = 0) ∨ (¬ n + 1 < bu + wt ∧ v = 1))
    (st : St w wc ib b tb size inf sub false pc (fun _ => .nilFunc)) (p4 : pc 4 = .int .i64 bu) (p8 : pc 8 = .slice (some ⟨tb, 0, none⟩) size size) (p9 : pc 9 = .int .i64 hd) (p11 : pc 11 = .bool false) (p19 : pc 19 = .int .i64 wt) (p27 : pc 27 = .int .i64 0) (p29 : pc 29 = .int .i64 0) :
    RelC w ib b tb size inf sub false bu wt sg n hd (.pointer (some ⟨wc.heap.size, 0, none⟩)) (.bool true)
      (if q then (Pool.queued (w21 wc b inf sub) b tb slot n sub sg' v (.func (.func 8) #[] #[.pointer (some ⟨wc.heap.size, 0, none⟩)])).setCell ⟨b, 18, none⟩ (.pointer (some ⟨b, 18, none⟩)) else Pool.queued (w21 wc b inf sub) b tb slot n sub sg' v (.func (.func 8) #[] #[.pointer (some ⟨wc.heap.size, 0, none⟩)])).drew.drew.drew.drew := by
  obtain ⟨e1, e2, e3⟩ := ne21 st
  have s1 := (((((((st21 st).set 6 (by omega) (.int .i32 1)).setT slot hls (.func (.func 8) #[] #[.pointer (some ⟨wc.heap.size, 0, none⟩)])).set 10 (by omega) (.int .i64 (n + 1))).set 26 (by omega) (.int .i64 (wrap64 (sub + 1)))).set 20 (by omega) (.int .i64 sg')).set 22 (by omega) (.int .i32 v)).set 6 (by omega) (.int .i32 0)
  have k1 := (((((((cb21 st).set b 6 (.int .i32 1) e2).set tb slot (.func (.func 8) #[] #[.pointer (some ⟨wc.heap.size, 0, none⟩)]) e3).set b 10 (.int .i64 (n + 1)) e2).set b 26 (.int .i64 (wrap64 (sub + 1))) e2).set b 20 (.int .i64 sg') e2).set b 22 (.int .i32 v) e2).set b 6 (.int .i32 0) e2
  have hsg : (sg < wt ∧ sg' = sg + 1) ∨ (¬ sg < wt ∧ sg' = sg) := by omega
  cases q
  · exact ⟨true, wc.heap.size, n + 1, sg', wrap64 (sub + 1), v, _, _, rfl, rfl, s1.drew.drew.drew.drew, by simp [upd, p4, p8, p9, p11, p19, p27, p29], k1.drew.drew.drew.drew, ⟨e1, e2, e3⟩,
      .inr ⟨rfl, slot, hls, hslot, hn, ⟨rfl, rfl, rfl, rfl⟩, hsg, hv⟩⟩
  · exact ⟨true, wc.heap.size, n + 1, sg', wrap64 (sub + 1), v, _, _, rfl, rfl, (s1.set 18 (by omega) (.pointer (some ⟨b, 18, none⟩))).drew.drew.drew.drew, by simp [upd, p4, p8, p9, p11, p19, p27, p29], (k1.set b 18 (.pointer (some ⟨b, 18, none⟩)) e2).drew.drew.drew.drew, ⟨e1, e2, e3⟩,
      .inr ⟨rfl, slot, hls, hslot, hn, ⟨rfl, rfl, rfl, rfl⟩, hsg, hv⟩⟩

/-- the ring's place of the next task -/
theorem slot_of (hd n : Int) (size : Nat) (h0 : 0 ≤ hd) (h1 : hd < size) (n0 : 0 ≤ n) (n1 : n < size) :
    ∃ slot : Nat, slot < size ∧ (slot : Int) = (hd + n) % (size : Int) ∧ ((hd + n < size ∧ slot = (hd + n).toNat) ∨ ((size : Int) ≤ hd + n ∧ slot = (hd + n).toNat - size)) := by
  by_cases h : hd + n < size
  · refine ⟨(hd + n).toNat, by omega, ?_, .inl ⟨h, rfl⟩⟩
    rw [Int.emod_eq_of_lt (by omega) h]
    omega
  · refine ⟨(hd + n).toNat - size, by omega, ?_, .inr ⟨by omega, rfl⟩⟩
    have : (hd + n) % (size : Int) = hd + n - size := by
      rw [← Int.sub_emod_right, Int.emod_eq_of_lt (by omega) (by omega)]
    omega
end
end Go.Proofs.Ybulkbeti.Enq
