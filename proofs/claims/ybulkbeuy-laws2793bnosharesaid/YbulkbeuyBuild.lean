/- zzs2793bbuild. -/
import Derived.Test.YbulkbeuyCopy
import Derived.OwnWalk
namespace Go.Proofs.Ybulkbeuy.Sh
open Go.ChangeShapes Go.WideShapes Go.ChangeAt Go.RowKit
set_option linter.unusedSimpArgs false
set_option linter.unusedVariables false

/-- the argument as it lies -/
def EAt (w : World) (v : Value) (es : List (ByteArray × List Int)) : Prop :=
  ∃ a cap, v = .slice a es.length cap ∧ (a = none → es.length = 0) ∧ (es.length = 0 ∨ ∃ b off, a = some ⟨b, off, none⟩ ∧ ∀ i, i < es.length → w.cell? ⟨b, off + i * 2, none⟩ = some (.string (ent es i).1) ∧ ∃ u, w.cell? ⟨b, off + i * 2 + 1, none⟩ = some u ∧ Bytes w u (ent es i).2)

theorem EAt.below {w w' : World} {v : Value} {es : List (ByteArray × List Int)} (h : EAt w v es) (hb : Below w.heap.size w w') : EAt w' v es := by
  obtain ⟨a, cap, rfl, ha, hc⟩ := h
  refine ⟨a, cap, rfl, ha, ?_⟩
  rcases hc with h0 | ⟨b, off, rfl, hcell⟩
  · exact .inl h0
  · refine .inr ⟨b, off, rfl, fun i hi => ?_⟩
    obtain ⟨h1, u, h2, h3⟩ := hcell i hi
    exact ⟨by rw [hb.cell (p := ⟨b, off + i * 2, none⟩) (lt_of_cell h1)]; exact h1, u, by rw [hb.cell (p := ⟨b, off + i * 2 + 1, none⟩) (lt_of_cell h2)]; exact h2, h3.below hb⟩

/-- a location that was made, beside the list's own block g -/
def BLoc (g : Nat) (w : World) (u : Value) (zs : List Int) : Prop :=
  (u = .slice none 0 0 ∧ zs = []) ∨ ∃ h cap, u = .slice (some ⟨h, 0, none⟩) zs.length cap ∧ h ≠ g ∧ ∀ j, j < zs.length → w.cell? ⟨h, j, none⟩ = some (.int .u8 (zs.getD j 0))
theorem BLoc.below {g : Nat} {w w' : World} {u : Value} {zs : List Int} (h : BLoc g w u zs) (hb : Below w.heap.size w w') : BLoc g w' u zs := by
  rcases h with h | ⟨h, cap, rfl, hne, hc⟩
  · exact .inl h
  · exact .inr ⟨h, cap, rfl, hne, fun j hj => by rw [hb.cell (p := ⟨h, j, none⟩) (lt_of_cell (hc j hj))]; exact hc j hj⟩
theorem BLoc.set {g : Nat} {w : World} {u : Value} {zs : List Int} (h : BLoc g w u zs) (j : Nat) (x : Value) : BLoc g (w.setCell ⟨g, j, none⟩ x) u zs := by
  rcases h with h | ⟨h, cap, rfl, hne, hc⟩
  · exact .inl h
  · refine .inr ⟨h, cap, rfl, hne, fun i hi => ?_⟩
    rw [World.cell?_of_block (w := w) (Below.heap_setCell w ⟨g, j, none⟩ x h hne)]
    exact hc i hi
theorem BLoc.bytes {g : Nat} {w : World} {u : Value} {zs : List Int} (h : BLoc g w u zs) (hz : ∀ i, i < zs.length → 0 ≤ zs.getD i 0 ∧ zs.getD i 0 ≤ 255) : Bytes w u zs := by
  rcases h with ⟨rfl, rfl⟩ | ⟨h, cap, rfl, hne, hc⟩
  · exact ⟨none, 0, rfl, fun _ => rfl, .inl rfl, hz⟩
  · exact ⟨_, cap, rfl, (fun h => by cases h), .inr ⟨h, 0, rfl, fun i hi => by rw [Nat.zero_add]; exact hc i hi⟩, hz⟩
theorem Bytes.range {w : World} {u : Value} {zs : List Int} (h : Bytes w u zs) : ∀ i, i < zs.length → 0 ≤ zs.getD i 0 ∧ zs.getD i 0 ≤ 255 := by
  obtain ⟨a, cap, rfl, ha, hc, hz⟩ := h
  exact hz

theorem BLoc.made {g h : Nat} {w : World} {zs : List Int} {cur : List Value} (hne : h ≠ g) (hl : cur.length = zs.length) (hg : w.heap[h]? = some (.cells (splice cur 0 (zs.map (Value.int .u8))).toArray 5 (0, 0))) : BLoc g w (.slice (some ⟨h, 0, none⟩) zs.length zs.length) zs := by
  refine .inr ⟨h, _, rfl, hne, fun j hj => ?_⟩
  have e : splice cur 0 (zs.map (Value.int .u8)) = zs.map (Value.int .u8) := by
    simp [splice, List.drop_of_length_le (show cur.length ≤ zs.length by omega)]
  rw [e] at hg
  simp only [World.cell?, hg]
  simp [List.getElem?_eq_getElem hj, List.getD_eq_getElem?_getD]

theorem own_row {w : World} {B e g n : Nat} {xs : List Value} (h : w.ownsRow B e 1 (.slice (some ⟨g, 0, none⟩) n n) n xs) : ∃ cur : List Value, cur.length = n ∧ w.heap[g]? = some (.cells cur.toArray e (0, 0)) := by
  rcases h.2 with ⟨h', _⟩ | ⟨g', cap', cur, h', hb, hg, _, _, hs, _⟩
  · simp at h'
  · cases h'
    exact ⟨cur.toList, by simpa using hs, by simpa using hg⟩

/-- the list behind one more entry -/
theorem build_step {w w2 : World} {es : List (ByteArray × List Int)} {ys : List Value} {k : Nat} {p : ByteArray} {zs : List Int} {u : Value} (hE : ent es k = (p, zs)) (hlt : k < es.length)
    (hO : w2.ownsRow w.heap.size 32 2 (.slice (some ⟨w.heap.size, 0, none⟩) es.length es.length) es.length ys)
    (HY : ∀ i, i < k → ys[i * 2]? = some (.string (ent es i).1) ∧ ∃ u, ys[i * 2 + 1]? = some u ∧ BLoc w.heap.size w2 u (ent es i).2) (hu : BLoc w.heap.size w2 u zs) :
    ∃ ys, ((w2.setCell ⟨w.heap.size, k * 2, none⟩ (.string p)).setCell ⟨w.heap.size, k * 2 + 1, none⟩ u).ownsRow w.heap.size 32 2 (.slice (some ⟨w.heap.size, 0, none⟩) es.length es.length) es.length ys ∧
      Hid (∀ i, i < k + 1 → ys[i * 2]? = some (.string (ent es i).1) ∧ ∃ x, ys[i * 2 + 1]? = some x ∧ BLoc w.heap.size ((w2.setCell ⟨w.heap.size, k * 2, none⟩ (.string p)).setCell ⟨w.heap.size, k * 2 + 1, none⟩ u) x (ent es i).2) := by
  have h1 := (hO.stored (k * 2) (.string p)).1
  have h2 := (h1.stored (k * 2 + 1) u).1
  refine ⟨_, h2, fun i hi => ?_⟩
  have hlen := hO.1
  by_cases hik : i = k
  · subst hik
    rw [hE]
    refine ⟨?_, u, ?_, (hu.set _ _).set _ _⟩
    · rw [List.getElem?_set_ne (by omega), List.getElem?_set_self (by omega)]
    · rw [List.getElem?_set_self (by simp; omega)]
  · obtain ⟨y1, x, y2, y3⟩ := HY i (by omega)
    refine ⟨?_, x, ?_, (y3.set _ _).set _ _⟩
    · rw [List.getElem?_set_ne (by omega), List.getElem?_set_ne (by omega)]; exact y1
    · rw [List.getElem?_set_ne (by omega), List.getElem?_set_ne (by omega)]; exact y2

theorem neqNil (w : World) (a : Option Addr) (n c : Nat) : (binOp .neq 23 (.slice a n c) (.slice none 0 0)).run Yba.prog w = .ok (.bool (!a.isNone)) w := by
  simp only [binOp]
  simp [Op.equal, Op.maxDepth, Lib.run_equalIn_slice_nil w 9999 23 5 a n c 0 0 Yba.underlying23]
theorem info5s : (Yba.prog.info? 5).map (·.size) = some 1 := by kernel_rfl

set_option maxHeartbeats 1600000 in
theorem build_any (v : Value) (es : List (ByteArray × List Int)) (w : World) (hv : EAt w v es) (hn : es.length ≤ 1024) (hl : ∀ i, i < es.length → (ent es i).2.length ≤ 4096) :
    Calls Yba.prog 5 #[v] w fun e w' => ∃ u, e = .returned u ∧ Below w.heap.size w w' ∧ SAt w' w.heap.size u es := by
  have q22 := fun (w : World) a n c => Lib.run_eql_slice_nil (P := Yba.prog) w 22 25 a n c 0 0 Yba.underlying22
  have q23 := neqNil
  obtain ⟨i0, hi, hz0, hz1, hz2⟩ := info_parts info32
  obtain ⟨j0, hj, hy0, hy1, hy2⟩ := info_parts info5
  obtain ⟨a, cap, rfl, ha, hc⟩ := hv
  have HC := hidMk hc
  have HL := hidMk hl
  clear hc hl
  cases a with
  | none =>
    have h0 := ha rfl
    go_enter Yba.func5, Yba.ntmps5
    go_wp2_with fail
    go_ret
    have : es = [] := List.length_eq_zero_iff.1 h0
    subst this
    exact ⟨_, rfl, Below.refl _ _, [], World.ownsRow_nil _ _ _ _, fun i hi => by simp at hi⟩
  | some ad =>
    clear ha
    go_enter Yba.func5, Yba.ntmps5
    go_wp2_with (at_make; refine wpList_make_full _ rfl _ _ 26 rfl w.heap.size 32 i0 _ 2 Yba.underlying26 hi hz0 hz1 .i64 .i64 _ _ es.length rfl rfl rfl rfl (by rw [hz2]; omega) (by unfold maxLen; omega) (Nat.le_refl _) ?_; intro wm hown hgr; have HM := hidMk (And.intro hown hgr); clear hown hgr)
    go_loopw [4, 5] (fun i _ wr => ∃ k : Nat, k ≤ es.length ∧ i = .int .i64 (k : Int) ∧ Below w.heap.size w wr ∧ ∃ ys, wr.ownsRow w.heap.size 32 2 (.slice (some ⟨w.heap.size, 0, none⟩) es.length es.length) es.length ys ∧ Hid (∀ i, i < k → ys[i * 2]? = some (.string (ent es i).1) ∧ ∃ u, ys[i * 2 + 1]? = some u ∧ BLoc w.heap.size wr u (ent es i).2)) (fun i _ _ => es.length - (intOf i).toNat)
    case atStart => exact ⟨0, Nat.zero_le _, rfl, (Below.refl _ _).grown HM.out.2 (Nat.le_refl _) (fun k hk => by cases hk), _, HM.out.1, fun i hi => by omega⟩
    case round =>
      obtain ⟨k, hk, rfl, hB, ys, hO, HY⟩ := hrel
      by_cases hlt : k < es.length
      · rcases HC.out with h0 | ⟨b, off, he, hcell⟩
        · omega
        cases he
        obtain ⟨ck1, u, ck2, hbu⟩ := hcell k hlt
        have hbw : b < w.heap.size := lt_of_cell ck1
        have hlk := HL.out k hlt
        rw [← hB.cell (p := ⟨b, off + k * 2, none⟩) hbw] at ck1
        rw [← hB.cell (p := ⟨b, off + k * 2 + 1, none⟩) hbw] at ck2
        have HBU := hidMk (hbu.below hB)
        have hlen := hO.1
        have hwr := hB.size
        have cg1 : wr.cell? ⟨w.heap.size, k * 2, none⟩ = ys[k * 2]? := hO.cellAt _ (by omega)
        have cg2 : wr.cell? ⟨w.heap.size, k * 2 + 1, none⟩ = ys[k * 2 + 1]? := hO.cellAt _ (by omega)
        rw [List.getElem?_eq_getElem (by omega)] at cg1 cg2
        generalize ys[k * 2] = y1 at cg1
        generalize ys[k * 2 + 1] = y2 at cg2
        have cf1 : wr.frozen? ⟨w.heap.size, k * 2, none⟩ = false := hO.frozenAt _
        have cf2 : wr.frozen? ⟨w.heap.size, k * 2 + 1, none⟩ = false := hO.frozenAt _
        have HO := hidMk hO
        clear hcell hO
        obtain ⟨p, zs, hE⟩ : ∃ p zs, ent es k = (p, zs) := ⟨_, _, rfl⟩
        rw [hE] at ck1 hbu HBU hlk
        dsimp only at ck1 hbu HBU hlk
        have HE := hidMk hE
        have HR := hidMk hbu.range
        obtain ⟨a1, c1, rfl, ha1, _⟩ := hbu
        clear hE
        cases a1 with
        | none =>
          have hz := ha1 rfl
          go_wp2_with fail
          go_roundw
          case rel =>
            have : zs = [] := List.length_eq_zero_iff.1 hz
            subst this
            exact ⟨k + 1, by omega, by go_num, (hB.setCell (Nat.le_refl _) _).setCell (Nat.le_refl _) _, build_step HE.out hlt HO.out HY.out (.inl ⟨rfl, rfl⟩)⟩
          case measure => simp [intOf]; omega
        | some ad1 =>
          clear ha1
          have HF := hidMk (And.intro ck1 (And.intro ck2 (And.intro cg1 (And.intro cg2 (And.intro cf1 cf2)))))
          have HBW := hidMk hbw
          go_wp2_with (first
            | (at_make; refine wpList_make_full _ rfl _ _ 23 rfl wr.heap.size 5 j0 _ 1 Yba.underlying23 hj hy0 hy1 .i64 .i64 _ _ zs.length rfl rfl rfl rfl (by rw [hy2]; omega) (by unfold maxLen; omega) (Nat.le_refl _) ?_; intro w1 hown1 hgr1;
               have HW1 := hidMk (And.intro hown1 ((Below.refl wr.heap.size wr).grown hgr1 (Nat.le_refl _) (fun k hk => by cases hk)));
               have dk2 : w1.cell? ⟨b, off + k * 2 + 1, none⟩ = some (.slice (some ad1) zs.length c1) := by (rw [HW1.out.2.cell (lt_of_cell HF.out.2.1)]; exact HF.out.2.1);
               obtain ⟨cur, hcl, hcg⟩ := own_row hown1; have HCG := hidMk (And.intro hcl hcg); clear hown1 hgr1 hcg hcl)
            | (with_reducible show wpList _ _ _ ({ dst := some 36, op := _, type := _, pos := _, after := _, guard := _ } :: _) _ _; refine wpList_copy_splice rfl _ _ 23 23 rfl 5 Yba.underlying23 info5s (some ⟨wr.heap.size, 0, none⟩) (some ad1) zs.length zs.length zs.length c1 rfl rfl wr.heap.size 0 cur 5 HCG.out.2 (zs.map (Value.int .u8)) (by rw [List.length_map]; exact (Nat.min_self _).symm) (fun _ => ⟨rfl, ad1, rfl, (HBU.out.below HW1.out.2).news⟩) (by rw [HCG.out.1]; simp) (bytes_oneCell zs) wr.heap.size wr HW1.out.2 (Nat.le_refl _) ?_; intro w2 HG2 hB2;
               have HB2 := hidMk hB2;
               have dk1 : w2.cell? ⟨b, off + k * 2, none⟩ = some (.string p) := by (rw [HB2.out.cell (lt_of_cell HF.out.1)]; exact HF.out.1);
               have dg1 : w2.cell? ⟨w.heap.size, k * 2, none⟩ = some y1 := by (rw [HB2.out.cell (lt_of_cell HF.out.2.2.1)]; exact HF.out.2.2.1);
               have dg2 : w2.cell? ⟨w.heap.size, k * 2 + 1, none⟩ = some y2 := by (rw [HB2.out.cell (lt_of_cell HF.out.2.2.2.1)]; exact HF.out.2.2.2.1);
               have df1 : w2.frozen? ⟨w.heap.size, k * 2, none⟩ = false := by (rw [HB2.out.frozen (lt_of_cell HF.out.2.2.1)]; exact HF.out.2.2.2.2.1);
               have df2 : w2.frozen? ⟨w.heap.size, k * 2 + 1, none⟩ = false := by (rw [HB2.out.frozen (lt_of_cell HF.out.2.2.2.1)]; exact HF.out.2.2.2.2.2);
               clear hB2))
          go_roundw
          case rel =>
            refine ⟨k + 1, by omega, by go_num, ((hB.trans (HB2.out.mono hwr)).setCell (Nat.le_refl _) _).setCell (Nat.le_refl _) _, build_step HE.out hlt (own_below HO.out HB2.out) (fun i hi => ?_) (BLoc.made ?_ HCG.out.1 HG2.out)⟩
            · obtain ⟨y1, x, y2, y3⟩ := HY.out i hi
              exact ⟨y1, x, y2, y3.below HB2.out⟩
            · have := lt_of_cell HF.out.2.2.1
              omega
          case measure => simp [intOf]; omega
      · go_wp2_with fail
        go_ret
        refine ⟨_, rfl, hB, ys, hO, fun i hi => ?_⟩
        obtain ⟨y1, x, y2, y3⟩ := HY.out i (by omega)
        rcases HC.out with h0 | ⟨b, off, he, hcell⟩
        · omega
        obtain ⟨_, u, _, hbu⟩ := hcell i hi
        exact ⟨y1, x, y2, y3.bytes hbu.range⟩
end Go.Proofs.Ybulkbeuy.Sh
