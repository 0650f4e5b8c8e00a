/- The walk of zzs2792cnames. -/
import Derived.Test.YbulkbeukAdm
namespace Go.Proofs.Ybulkbeuk.Adm
open Go.ChangeShapes Go.WideShapes Go.ChangeAt Go.RowKit
set_option linter.unusedSimpArgs false
set_option linter.unusedVariables false

theorem info70 : (Yba.prog.info? 70).map (fun i => (i.zero, i.size, i.bytes)) = some (some (.agg #[.int .i64 0, .string ⟨#[]⟩, .pointer none]), 3, 32) := by kernel_rfl

/-- the cells of the names that zzs2792cnames makes -/
def nameCells (ns : List (Int × ByteArray)) : List Value := ns.flatMap fun n => [.int .i64 (kd n.1), .string n.2, .pointer none]
theorem nameCells_length (ns : List (Int × ByteArray)) : (nameCells ns).length = ns.length * 3 := by
  induction ns with
  | nil => rfl
  | cons x r ih =>
    simp only [nameCells, List.flatMap_cons, List.length_append, List.length_cons, List.length_nil] at ih ⊢
    omega
theorem nameCells_snoc (ns : List (Int × ByteArray)) (x : Int × ByteArray) : nameCells (ns ++ [x]) = nameCells ns ++ [.int .i64 (kd x.1), .string x.2, .pointer none] := by simp [nameCells]

/-- the call of zzs2792ckind inside a region that draws -/
theorem step_kind {ops : Array Oper} {o : Oper} {a : Act} {w : World} {K : Act → World → Prop} {Q : Exit → Act → World → Prop} {E : Prop} (hg : o.guard = none) (x : Operand)
    (hop : o.op = Op.call { callee := .value (.func 19), args := #[x], argTypes := #[5] }) (k : Int) (hx : a.eval x = .int .u8 k) (h0 : 0 ≤ k) (h1 : k ≤ 255)
    (hK : K (a.put o.dst (.int .i64 (kd k))) w) : if Region.wanted o (yielded ops a.tmps) = true then Oper.wp Yba.prog o a w K Q else E := by
  have hw : Region.wanted o (yielded ops a.tmps) = true := by simp [Region.wanted, hg]
  rw [if_pos hw]
  have hc : (callFunc 19 #[.int .u8 k]).run Yba.prog w = .ok (.enter 19 #[.int .u8 k]) w := by kernel_rfl
  have hr : (execOp a.eval o).run Yba.prog w = .ok (.enter 19 #[.int .u8 k]) w := by
    have he : a.eval (.func 19) = .func (.func 19) #[] #[] := rfl
    simp [execOp, hop, resolve, invoke, hx, he, Deferred.ofValue, hc]
  unfold Oper.wp
  rw [hr]
  refine (kind_any k w h0 h1).mono ?_
  rintro e w' ⟨rfl, rfl⟩
  exact hK

/-- append onto the call's own row, there being room, inside a region that draws -/
theorem step_app {ops : Array Oper} {o : Oper} {a : Act} {w : World} {K : Act → World → Prop} {Q : Exit → Act → World → Prop} {E : Prop} (hg : o.guard = none) (s x : Operand)
    (ho : o.op = .call { callee := .builtin .append, args := #[s, x], argTypes := #[59, 59] }) (base g n cap : Nat) (xs : List Value) (hs : a.eval s = .slice (some ⟨g, 0, none⟩) n cap)
    (hown : w.ownsRow base 70 3 (.slice (some ⟨g, 0, none⟩) n cap) n xs) (ad : Addr) (news : List Value) (hx : a.eval x = .slice (some ad) 1 1) (hl : news.length = 1 * 3) (hnews : ∀ j u, news[j]? = some u → w.cell? (ad.add j) = some u) (h1 : ∀ u ∈ news, u.oneCell' = true) (hroom : n + 1 ≤ cap)
    (hK : ∀ w', w'.ownsRow base 70 3 (.slice (some ⟨g, 0, none⟩) (n + 1) cap) (n + 1) (xs ++ news) → w.grownBy w' (some g) → K (a.put o.dst (.slice (some ⟨g, 0, none⟩) (n + 1) cap)) w') :
    if Region.wanted o (yielded ops a.tmps) = true then Oper.wp Yba.prog o a w K Q else E := by
  have hw : Region.wanted o (yielded ops a.tmps) = true := by simp [Region.wanted, hg]
  rw [if_pos hw]
  obtain ⟨i0, hi, hz0, hz1, hz2⟩ := info_parts info70
  exact wp_append_own_spare w s x 59 ho base 70 i0 3 Yba.underlying59 hi hz1 g n cap xs hs hown ad 1 1 news hx hl hnews h1 hroom hK

theorem cells_new (W : World) (c : List Value) (t : TypeId) (g : Nat) (hg : g = W.heap.size) : ∀ j u, c[j]? = some u → (W.alloc (.cells c.toArray t)).cell? ((⟨g, 0, none⟩ : Addr).add j) = some u := by
  intro j u hu
  subst hg
  rw [add_plain]
  simp only [World.cell?, heap_alloc_new]
  simpa using hu

set_option maxHeartbeats 800000 in
theorem names_any (vn : Value) (ns : List (Int × ByteArray)) (w : World) (hl : ns.length ≤ 256) (hn : NamesAt w vn ns) :
    Calls Yba.prog 13 #[vn] w fun e w' => e = .returned (.slice (some ⟨w.heap.size, 0, none⟩) ns.length ns.length) ∧ Below w.heap.size w w' ∧ w'.ownsRow w.heap.size 70 3 (.slice (some ⟨w.heap.size, 0, none⟩) ns.length ns.length) ns.length (nameCells ns) := by
  obtain ⟨a, cap, rfl, hc, hbd⟩ := hn
  have HBD := hidMk hbd
  have HC := hidMk hc
  clear hc hbd
  obtain ⟨i0, hi, hz0, hz1, hz2⟩ := info_parts info70
  go_enter Yba.func13, Yba.ntmps13
  go_wp2_with (at_make; refine wpList_make_own _ rfl _ _ 59 rfl w.heap.size 70 i0 _ 3 Yba.underlying59 hi hz0 hz1 .i64 .i64 _ ns.length rfl rfl rfl (by rw [hz2]; omega) (by unfold maxLen; omega) (Nat.le_refl _) ?_; intro wm hown hgr)
  have HM := hidMk (⟨(Below.refl _ w).grown hgr (Nat.le_refl _) (fun k hk => by cases hk), hown⟩ : Below w.heap.size w wm ∧ wm.ownsRow w.heap.size 70 3 (.slice (some ⟨w.heap.size, 0, none⟩) 0 ns.length) 0 [])
  clear hown hgr
  go_loopw [3, 5, 11] (fun v _ i wr => ∃ k : Nat, k ≤ ns.length ∧ i = .int .i64 (k : Int) ∧ v = .slice (some ⟨w.heap.size, 0, none⟩) k ns.length ∧ Below w.heap.size w wr ∧ wr.ownsRow w.heap.size 70 3 (.slice (some ⟨w.heap.size, 0, none⟩) k ns.length) k (nameCells (ns.take k))) (fun _ _ i _ => ns.length - (intOf i).toNat)
  case atStart => exact ⟨0, Nat.zero_le _, rfl, rfl, HM.out.1, by simpa [nameCells] using HM.out.2⟩
  case round =>
    obtain ⟨k, hk, rfl, rfl, hB, hown⟩ := hrel
    by_cases hlt : k < ns.length
    · rcases HC.out with h0 | ⟨b, off, rfl, hcell⟩
      · omega
      obtain ⟨ck, ct⟩ := hcell k hlt
      rw [← hB.cell (p := ⟨b, off + k * 2, none⟩) (lt_of_cell ck)] at ck
      rw [← hB.cell (p := ⟨b, off + k * 2 + 1, none⟩) (lt_of_cell ct)] at ct
      obtain ⟨⟨hk0, hk1⟩, _⟩ := HBD.out k hlt
      have HT : Hid (nameCells (ns.take (k + 1)) = nameCells (ns.take k) ++ [.int .i64 (kd (ns.getD k (0, ByteArray.empty)).1), .string (ns.getD k (0, ByteArray.empty)).2, .pointer none]) := by
        show nameCells (ns.take (k + 1)) = _
        rw [List.take_succ_eq_append_getElem hlt, nameCells_snoc, List.getD_eq_getElem?_getD, List.getElem?_eq_getElem hlt]
        rfl
      clear hcell
      generalize ns.getD k (0, ByteArray.empty) = x at ck ct hk0 hk1 HT
      obtain ⟨x1, x2⟩ := x
      have HO := hidMk hown
      clear hown
      dsimp only at ck ct hk0 hk1 HT
      go_upto_region 5 with fail
      go_region_law (first
        | (refine step_app rfl (.tmp 15) (.tmp 22) rfl w.heap.size w.heap.size k ns.length (nameCells (ns.take k)) (by simp [Act.eval, Act.put]) ?_ ⟨wr.heap.size + 1, 0, none⟩ [.int .i64 (kd x1), .string x2, .pointer none] (by simp [Act.eval, Act.put]) rfl ?_ ?_ (by omega) ?_; exact ((HO.out.alloc _).alloc _).drew; exact cells_new (wr.alloc _) [.int .i64 (kd x1), .string x2, .pointer none] 70 _ (by simp); (simp [Value.oneCell']); intro w2 h2 h3)
        | (refine step_kind rfl (.tmp 17) rfl x1 (by simp [Act.eval, Act.put]) hk0 hk1 ?_))
      all_goals
        go_wp2_with fail
        have hsz := hB.size
        go_roundw
        case rel => exact ⟨k + 1, by omega, by go_num, rfl, (((hB.alloc hB.size _).alloc (by simp; omega) _).drew).grown h3 (by simp; omega) (fun j hj => by cases hj; exact Nat.le_refl _), by rw [HT.out]; exact h2⟩
        case measure => simp [intOf]; omega
    · go_wp2_with fail
      have hke : k = ns.length := by omega
      subst hke
      go_ret
      exact ⟨rfl, hB, by simpa using hown⟩
end Go.Proofs.Ybulkbeuk.Adm
