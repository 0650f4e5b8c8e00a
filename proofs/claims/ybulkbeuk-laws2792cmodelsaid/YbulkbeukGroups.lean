/- The map of the groups while it is filled; the step laws for the region that fills it. -/
import Derived.Test.YbulkbeukMember
import Derived.Maps.AppendAt
namespace Go.Proofs.Ybulkbeuk.Adm
open Go.ChangeShapes Go.WideShapes Go.ChangeAt Go.RowKit Go.Proofs.Ybulkbeuk.MapF
set_option linter.unusedSimpArgs false
set_option linter.unusedVariables false

/-- edge i -/
def edge (es : List (ByteArray × ByteArray)) (i : Nat) : ByteArray × ByteArray := es.getD i (ByteArray.empty, ByteArray.empty)
/-- a slice of edges as it lies -/
def EdgesAt (w : World) (v : Value) (es : List (ByteArray × ByteArray)) : Prop :=
  ∃ a cap, v = .slice a es.length cap ∧ (es.length = 0 ∨ ∃ b off, a = some ⟨b, off, none⟩ ∧ ∀ i, i < es.length → w.cell? ⟨b, off + i * 2, none⟩ = some (.string (edge es i).1) ∧ w.cell? ⟨b, off + i * 2 + 1, none⟩ = some (.string (edge es i).2)) ∧
    ∀ i, i < es.length → (edge es i).1.size ≤ maxLen ∧ (edge es i).2.size ≤ maxLen

/-- the groups of the first k edges -/
structure Grp (B : Nat) (w : World) (mb k : Nat) (mv : List UInt8 → Value) (es : List (ByteArray × ByteArray)) : Prop where
  map : MapIs w mb k (.slice none 0 0) mv
  row : ∀ l, Row B w (mv l) (groups (es.take k) l)
  apart : ∀ l l', l ≠ l' → (mv l).ownBlock = none ∨ (mv l).ownBlock ≠ (mv l').ownBlock

theorem edge_some {es : List (ByteArray × ByteArray)} {k : Nat} (h : k < es.length) : es[k]? = some (edge es k) := by
  rw [edge, List.getD_eq_getElem?_getD, List.getElem?_eq_getElem h]
  rfl
theorem groups_step {es : List (ByteArray × ByteArray)} {k : Nat} (h : k < es.length) (l : List UInt8) : groups (es.take (k + 1)) l = if (edge es k).1.data.toList = l then groups (es.take k) l ++ [(edge es k).2] else groups (es.take k) l := by
  have he := edge_some h
  rw [List.getElem?_eq_getElem h] at he
  unfold groups
  rw [List.take_succ_eq_append_getElem h, Option.some.inj he, List.filter_append, List.map_append]
  by_cases hl : (edge es k).1.data.toList = l
  · simp [hl]
  · have : ((edge es k).1.data.toList == l) = false := beq_eq_false_iff_ne.2 hl
    simp [hl, this]

theorem Grp.made (w : World) (es : List (ByteArray × ByteArray)) : Grp w.heap.size (w.alloc (.map #[] 0)) w.heap.size 0 (fun _ => .slice none 0 0) es :=
  ⟨MapIs.made w _, fun l => by simpa [groups, Row] using World.ownsRow_nil _ _ _ _, fun l l' _ => .inl rfl⟩

theorem Grp.later {B mb k : Nat} {w w' : World} {mv : List UInt8 → Value} {es : List (ByteArray × ByteArray)} (h : Grp B w mb k mv es) (hb : Below w.heap.size w w') : Grp B w' mb k mv es :=
  ⟨h.map.block (hb.block _ h.map.lt), fun l => World.ownsRow.kept (row := none) (h.row l) ⟨hb.os, hb.tape, hb.output, hb.size, fun j hj _ => hb.block j hj⟩ (by cases hv : (mv l).ownBlock <;> simp), h.apart⟩

theorem row_ne_map {w : World} {b n B : Nat} {z v : Value} {f : List UInt8 → Value} {T : List ByteArray} (h : MapIs w b n z f) (ho : Row B w v T) : some b ≠ v.ownBlock := by
  rcases ho.2 with ⟨rfl, _⟩ | ⟨g, cap, cur, rfl, hb, hg, _⟩
  · simp [Value.ownBlock]
  · have := map_ne_row (n := n) h (show w.ownsRow B 9 1 (.slice (some ⟨g, 0, none⟩) T.length cap) T.length (T.map Value.string) from ho)
    simpa [Value.ownBlock] using this

/-- one more edge: w1: ahead of the append; w2: behind it; w3: behind the store -/
theorem Grp.step {B mb k : Nat} {w1 w2 w3 : World} {mv : List UInt8 → Value} {es : List (ByteArray × ByteArray)} (hk : k < es.length) (h : Grp B w1 mb k mv es) {v' : Value}
    (hrow : Row B w2 v' (groups (es.take k) (edge es k).1.data.toList ++ [(edge es k).2])) (hg2 : w1.grownBy w2 (mv (edge es k).1.data.toList).ownBlock) (hat : v'.ownBlock = (mv (edge es k).1.data.toList).ownBlock ∨ v'.ownBlock = some w1.heap.size)
    (hM3 : MapIs w3 mb (k + 1) (.slice none 0 0) (upd mv (edge es k).1.data.toList v')) (hg3 : w2.grownBy w3 (some mb)) : Grp B w3 mb (k + 1) (upd mv (edge es k).1.data.toList v') es := by
  have hM2 := h.map.kept hg2 (row_ne_map h.map (h.row _))
  have hsize : ∀ l b, (mv l).ownBlock = some b → b < w1.heap.size := fun l b hb => (World.ownsRow.lt (h.row l) b hb).2
  refine ⟨hM3, fun l => ?_, fun l l' hne => ?_⟩
  · rw [groups_step hk]
    by_cases hl : (edge es k).1.data.toList = l
    · subst hl
      simp only [upd, if_true]
      exact World.ownsRow.kept hrow hg3 (.inr (fun e => row_ne_map hM2 hrow e.symm))
    · have hl' : ¬ l = (edge es k).1.data.toList := fun e => hl e.symm
      simp only [upd, if_neg hl, if_neg hl']
      have r2 : Row B w2 (mv l) (groups (es.take k) l) := World.ownsRow.kept (h.row l) hg2 (h.apart l _ hl')
      exact World.ownsRow.kept r2 hg3 (.inr (fun e => row_ne_map hM2 r2 e.symm))
  · unfold upd
    by_cases hl : l = (edge es k).1.data.toList
    · have hl' : ¬ l' = (edge es k).1.data.toList := fun e => hne (hl.trans e.symm)
      rw [if_pos hl, if_neg hl']
      rcases hat with ha | ha
      · rw [ha]
        exact h.apart _ _ (by rw [← hl]; exact hne)
      · right
        rw [ha]
        intro e
        have := hsize l' _ e.symm
        omega
    · rw [if_neg hl]
      by_cases hl' : l' = (edge es k).1.data.toList
      · rw [if_pos hl']
        rcases hat with ha | ha
        · rw [ha]
          exact h.apart _ _ hl
        · right
          rw [ha]
          intro e
          have := hsize l _ e
          omega
      · rw [if_neg hl']
        exact h.apart _ _ hne

section
variable {ops : Array Oper} {o : Oper} {a : Act} {w : World} {K : Act → World → Prop} {Q : Exit → Act → World → Prop} {E : Prop}

theorem step_lookup {b n : Nat} {m : List UInt8 → Value} (h : MapIs w b n (.slice none 0 0) m) (hg : o.guard = none) (mo x : Operand) (hop : o.op = Op.lookup 32 mo x false) (hm : a.eval mo = .map (some b)) (s : ByteArray) (hs : s.size ≤ maxLen) (hx : a.eval x = .string s)
    (hK : K (a.put o.dst (m s.data.toList)) w) : if Region.wanted o (yielded ops a.tmps) = true then Oper.wp Yba.prog o a w K Q else E := by
  have hw : Region.wanted o (yielded ops a.tmps) = true := by simp [Region.wanted, hg]
  rw [if_pos hw]
  have hr := h.lookup Yba.underlying32 (zeroSlice w) s hs
  unfold Oper.wp
  simp [execOp, hop, hm, hx, hr, Result.andThen]
  exact hK

theorem step_store {b n : Nat} {m : List UInt8 → Value} (h : MapIs w b n (.slice none 0 0) m) (hg : o.guard = none) (mo x v : Operand) (hop : o.op = Op.mapUpdate 32 mo x v) (hm : a.eval mo = .map (some b)) (hn : n < maxLen) (s : ByteArray) (hs : s.size ≤ maxLen) (hx : a.eval x = .string s) (val : Value) (hv : a.eval v = val)
    (hK : ∀ w', MapIs w' b (n + 1) (.slice none 0 0) (upd m s.data.toList val) → w.grownBy w' (some b) → K (a.put o.dst undef) w') : if Region.wanted o (yielded ops a.tmps) = true then Oper.wp Yba.prog o a w K Q else E := by
  have hw : Region.wanted o (yielded ops a.tmps) = true := by simp [Region.wanted, hg]
  rw [if_pos hw]
  obtain ⟨w', hr, r1, r2⟩ := h.update Yba.underlying32 hn s hs val
  unfold Oper.wp
  simp [execOp, hop, hm, hx, hv, hr, Result.andThen]
  exact hK w' r1 r2

theorem step_append {B : Nat} {v : Value} {T : List ByteArray} (h : Row B w v T) (hg : o.guard = none) (s x : Operand) (hop : o.op = .call { callee := .builtin .append, args := #[s, x], argTypes := #[31, 31] }) (hs : a.eval s = v) (ad : Addr) (p : ByteArray) (hx : a.eval x = .slice (some ad) 1 1)
    (hnews : ∀ j u, [Value.string p][j]? = some u → w.cell? (ad.add j) = some u) (hT : T.length ≤ 1000) (hB : B ≤ w.heap.size)
    (hK : ∀ v' w', Row B w' v' (T ++ [p]) → w.grownBy w' v.ownBlock → (v'.ownBlock = v.ownBlock ∨ v'.ownBlock = some w.heap.size) → K (a.put o.dst v') w') : if Region.wanted o (yielded ops a.tmps) = true then Oper.wp Yba.prog o a w K Q else E := by
  have hw : Region.wanted o (yielded ops a.tmps) = true := by simp [Region.wanted, hg]
  rw [if_pos hw]
  obtain ⟨i0, hi, hz0, hz1, hz2⟩ := info_parts info9
  obtain ⟨v', w', hr, r1, r2, r3, r4⟩ := run_append_own_at (P := Yba.prog) w B 31 o.type 9 i0 (.string ⟨#[]⟩) 1 16 Yba.underlying31 hi hz0 hz1 hz2 rfl (by decide) v T.length (T.map Value.string) h ad 1 1 [.string p] rfl hnews (strs_oneCell [p]) (by unfold maxLen; omega) (by omega) hB
  unfold Oper.wp execOp
  simp only [hop, resolve, invoke, builtin, Sem.run_bind, Sem.run_pure, Result.andThen_ok, List.map_toArray, List.map_cons, List.map_nil, hs, hx, hr]
  exact hK v' w' (by unfold Row; simpa using r1) r2 r4
end
end Go.Proofs.Ybulkbeuk.Adm
