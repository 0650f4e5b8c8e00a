/- The walk of LawS2792ABuilt. -/
import Derived.Test.YbulkbeukParts
import Derived.Deep.DeepCutAuto
import Derived.Laws.BytesArg
namespace Go.Proofs.Ybulkbeuk.Parts
open Go.ChangeShapes Go.WideShapes Go.ChangeAt Go.RowKit Go.Proofs.Ybulkbeuk.Cnt

def cellsB (l : List UInt8) : List Value := l.map fun b => Value.int .u8 b.toNat
theorem cellsB_append (a b : List UInt8) : cellsB (a ++ b) = cellsB a ++ cellsB b := by simp [cellsB]
theorem cellsB_str (l : List UInt8) : Lib.strCells ⟨l.toArray⟩ = cellsB l := rfl

/-- what the walk has in hand: the two boxes, the text so far -/
structure Bs (w wr : World) (a1 : Option Addr) (len1 cap1 : Nat) (cr : Bool) (v : Value) (L : List UInt8) : Prop where
  below : Below w.heap.size w wr
  box1 : wr.cell? ⟨w.heap.size, 0, none⟩ = some (.slice a1 len1 cap1)
  box2 : wr.cell? ⟨w.heap.size + 1, 0, none⟩ = some (.bool cr)
  sz : w.heap.size + 1 + 1 ≤ wr.heap.size
  own : wr.ownsRow (w.heap.size + 1 + 1) 5 1 v L.length (cellsB L)

section
variable {w wr : World} {a1 : Option Addr} {len1 cap1 : Nat} {cr : Bool} {v : Value} {L : List UInt8}

theorem Bs.drewN (h : Bs w wr a1 len1 cap1 cr v L) (n : Nat) : Bs w (wr.drewN n) a1 len1 cap1 cr v L :=
  { below := h.below.trans ⟨rfl, rfl, rfl, Nat.le_refl _, fun _ _ => rfl⟩, box1 := h.box1, box2 := h.box2, sz := h.sz, own := h.own }

theorem Bs.grown (h : Bs w wr a1 len1 cap1 cr v L) {w' : World} {v' : Value} {S : List UInt8} (ho : w'.ownsRow (w.heap.size + 1 + 1) 5 1 v' (L.length + S.length) (cellsB L ++ cellsB S)) (hg : wr.grownBy w' v.ownBlock) :
    Bs w w' a1 len1 cap1 cr v' (L ++ S) := by
  have hlt := h.own.lt
  have hne : ∀ k, k < w.heap.size + 1 + 1 → some k ≠ v.ownBlock := fun k hk e => by
    have := (hlt k e.symm).1
    omega
  exact
    { below := ⟨hg.os.trans h.below.os, hg.tape.trans h.below.tape, hg.output.trans h.below.output, Nat.le_trans h.below.size hg.size, fun k hk => (hg.block k (by have := h.sz; omega) (hne k (by omega))).trans (h.below.block k hk)⟩
      box1 := hg.cell h.box1 (hne _ (by show w.heap.size < _; omega))
      box2 := hg.cell h.box2 (hne _ (by show w.heap.size + 1 < _; omega))
      sz := Nat.le_trans h.sz hg.size
      own := by rw [cellsB_append, List.length_append]; exact ho }
end

theorem info5 : (Yba.prog.info? 5).map (fun i => (i.zero, i.size, i.bytes)) = some (some (.int .u8 0), 1, 1) := by kernel_rfl

theorem cell_new (w : World) (C : Array Value) (t : TypeId) (k : Nat) : (w.alloc (.cells C t)).cell? ⟨w.heap.size, k, none⟩ = C[k]? := by
  simp only [World.cell?, heap_alloc_new]
  simp
theorem cell_old (w : World) (o : Obj) (b k : Nat) (h : b < w.heap.size) : (w.alloc o).cell? ⟨b, k, none⟩ = w.cell? ⟨b, k, none⟩ := World.cell?_of_block (w := w) (Below.heap_alloc w o b h)

/-- the made row -/
theorem Bs.made (w : World) (a1 : Option Addr) (len1 cap1 : Nat) (cr : Bool) {w' : World} {v : Value}
    (ho : w'.ownsRow (w.heap.size + 1 + 1) 5 1 v 0 []) (hg : ((w.alloc (.cells #[.slice a1 len1 cap1] 24)).alloc (.cells #[.bool cr] 4)).grownBy w' none) : Bs w w' a1 len1 cap1 cr v [] := by
  have e0 : ((w.alloc (.cells #[.slice a1 len1 cap1] 24)).alloc (.cells #[.bool cr] 4)).cell? ⟨w.heap.size, 0, none⟩ = some (.slice a1 len1 cap1) := by
    rw [cell_old _ _ _ _ (by simp), cell_new]
    rfl
  have e1 : ((w.alloc (.cells #[.slice a1 len1 cap1] 24)).alloc (.cells #[.bool cr] 4)).cell? ⟨w.heap.size + 1, 0, none⟩ = some (.bool cr) := by
    have := cell_new (w.alloc (.cells #[.slice a1 len1 cap1] 24)) #[.bool cr] 4 0
    rw [World.size_alloc] at this
    rw [this]
    rfl
  have hs : w.heap.size + 1 + 1 ≤ w'.heap.size := by
    have := hg.size
    simp at this
    omega
  exact
    { below := ((((Below.refl _ w).alloc (Nat.le_refl _) _).alloc (by simp) _).grown hg (by simp; omega) (fun k hk => by cases hk))
      box1 := hg.cell e0 (by simp), box2 := hg.cell e1 (by simp), sz := hs, own := ho }

/-- 'string(b)' -/
theorem Bs.conv {w wr : World} {a1 : Option Addr} {len1 cap1 : Nat} {cr : Bool} {v : Value} {L : List UInt8} (h : Bs w wr a1 len1 cap1 cr v L) : (convert 24 9 v).run Yba.prog wr = .ok (.string ⟨L.toArray⟩) wr := by
  obtain ⟨hlen, ⟨rfl, h0⟩ | ⟨g, cap, cur, rfl, hb, hg, h1, h2, h3, h4⟩⟩ := h.own
  · obtain rfl : L = [] := List.eq_nil_of_length_eq_zero h0
    exact run_convert_bytes_nil wr 24 5 Yba.underlying24 Yba.underlying5 0 0 9 Yba.underlying9
  · refine run_convert_bytes_back wr 24 9 5 ⟨g, 0, none⟩ cap L Yba.underlying24 Yba.underlying5 Yba.underlying9 ?_
    intro j hj
    refine h.own.cells (g := g) rfl j _ ?_
    simp [cellsB, List.getElem?_eq_getElem hj]

/-- 'b = append(b, s...)' -/
theorem wpList_app {ops : Array Oper} {rest : List Oper} {o : Oper} {a : Act} {Q : Exit → Act → World → Prop} {w wr : World} {a1 : Option Addr} {len1 cap1 : Nat} {cr : Bool} {v : Value} {L : List UInt8} (hB : Bs w wr a1 len1 cap1 cr v L) (hgd : o.guard = none) (sl x : Operand)
    (ho : o.op = .call { callee := .builtin .append, args := #[sl, x], argTypes := #[24, 9] }) (hs : a.eval sl = v) (l : List UInt8) (hx : a.eval x = .string ⟨l.toArray⟩) (hlen : L.length + l.length ≤ 100000)
    (h : ∀ v' w', Bs w w' a1 len1 cap1 cr v' (L ++ l) → wpList Yba.prog ops Q rest (a.put o.dst v') w') : wpList Yba.prog ops Q (o :: rest) a wr := by
  obtain ⟨i0, hi, hz0, hz1, hz2⟩ := info_parts info5
  have hsz : (⟨l.toArray⟩ : ByteArray).size = l.length := by simp [ByteArray.size]
  refine Lib.wpList_append_own_string _ hgd sl x 24 9 ho (w.heap.size + 1 + 1) 5 i0 Yba.underlying24 Yba.underlying9 hi hz0 hz1 hz2 v L.length (cellsB L) hs hB.own ⟨l.toArray⟩ hx (by rw [hsz]; unfold maxLen; omega) (by rw [hsz]; omega) hB.sz ?_
  intro v' w' h1 h2 _
  rw [hsz, cellsB_str] at h1
  exact h v' w' (hB.grown h1 h2)

set_option maxRecDepth 100000 in
set_option maxHeartbeats 1600000 in
theorem built_walk (a0 : Option Addr) (len0 cap0 : Nat) (z0 : List Int) (a1 : Option Addr) (len1 cap1 : Nat) (z1 : List Int) (a2 : Bool) (a3 : Bool) (cr : Bool) (w : World) (w0 : IsRow .u8 w a0 len0 cap0 z0) (w1 : IsRow .u8 w a1 len1 cap1 z1) :
    Calls Yba.prog 4 #[.slice a0 len0 cap0, .slice a1 len1 cap1, .bool a2, .bool a3, .bool cr] w fun e w' => e = .returned (.bool true) ∧ Below w.heap.size w w' := by
  by_cases g0 : (1024 : Int) < (len0 : Int)
  · go_enter Yba.func4, Yba.ntmps4
    go_wp2
    go_ret
    exact ⟨rfl, ((Below.refl _ w).alloc (Nat.le_refl _) _).alloc (by simp) _⟩
  by_cases g1 : (1024 : Int) < (len1 : Int)
  · go_enter Yba.func4, Yba.ntmps4
    go_wp2
    go_ret
    exact ⟨rfl, ((Below.refl _ w).alloc (Nat.le_refl _) _).alloc (by simp) _⟩
  obtain ⟨i0, hi, hz0, hz1, hz2⟩ := info_parts info5
  have hmf : ∀ (fn : Fn) (first cap : Array Value) (w : World), (Instr.makeFunc fn first cap).run Yba.prog w = .ok (.func fn first cap) w := fun _ _ _ _ => rfl
  go_enter Yba.func4, Yba.ntmps4
  go_upto_if 28 with (at_make; refine wpList_make_own _ rfl _ _ 24 rfl (w.heap.size + 1 + 1) 5 i0 (.int .u8 0) 1 Yba.underlying24 hi hz0 hz1 .i64 .i64 _ (16 * len0 + 16) rfl rfl (by omega) (by rw [hz2]; omega) (by unfold maxLen; omega) (by simp) ?_; intro wm hown hgr)
  have hb0 := Bs.made w a1 len1 cap1 cr hown hgr
  have HB0 := Tok.hidMk hb0
  clear hb0 hown hgr
  rw [World.size_alloc, World.size_alloc] at HB0
  go_cut [11] from 14 (fun v wr => ∃ L, Bs w wr a1 len1 cap1 cr v L ∧ Wrote cr L 0 none ∧ L.length ≤ 3)
  case first =>
    cases a2
    · go_wp2_with fail
      go_meet
      case rel => exact ⟨[], HB0.out, Wrote.nil cr, by simp⟩
    · go_wp2_with fail
      refine (close_any w1 HB0.out.below (by omega) 0 (by omega) w.heap.size (w.heap.size + 1) cr HB0.out.box1 HB0.out.box2).mono ?_
      rintro e w' ⟨⟨l, hl, rfl⟩, n, rfl⟩
      go_wp2_with (at_builtin; refine wpList_app (HB0.out.drewN n) rfl _ _ rfl rfl l rfl (by have := hl.1; simp; omega) ?_; intro v' w2 hB1)
      go_meet
      case rel => exact ⟨_, hB1, (Wrote.nil cr).sep (.inl rfl) hl, by have := hl.1; simpa using this⟩
  case rest =>
    obtain ⟨L0, hB, hW, hL⟩ := hcut
    go_wp2_with fail
    go_loopw [11, 13] (fun v i wr => ∃ (k : Nat) (L : List UInt8) (o : Option Bool), k ≤ len0 ∧ i = .int .i64 (k : Int) ∧ Bs w wr a1 len1 cap1 cr v L ∧ Wrote cr L k o ∧ Hid ((k = 0 ∧ o = none) ∨ (0 < k ∧ o = some false)) ∧ L.length ≤ 3 + 8 * k) (fun _ i _ => len0 - (intOf i).toNat)
    case atStart => exact ⟨0, L0, none, Nat.zero_le _, rfl, hB, hW, .inl ⟨rfl, rfl⟩, by omega⟩
    case round =>
      obtain ⟨k, L, o, hk, rfl, hBr, hWr, HO, hLr⟩ := hrel
      by_cases hlt : k < len0
      · obtain ⟨b, off, rfl, hbl, hcs, hby⟩ := w0.some_of (by omega)
        obtain ⟨hb0, hb1⟩ := hby k
        by_cases hk0 : k = 0
        · have hki : ¬ (0 : Int) < (k : Int) := by omega
          have ho : o = none := HO.out.elim (fun h => h.2) (fun h => absurd h.1 (by omega))
          have hcw : wr.cell? ⟨b, off + k, none⟩ = some (.int .u8 (z0.getD k 0)) := by rw [hBr.below.cell (p := ⟨b, off + k, none⟩) hbl]; exact hcs k hlt
          have HW := Tok.hidMk (ho ▸ hWr)
          clear ho hk0
          go_wp2_with fail
          refine (word_any _ cr _ hb0 hb1).mono ?_
          rintro e w' ⟨⟨lw, hlw, rfl⟩, rfl⟩
          go_wp2_with (at_builtin; refine wpList_app hBr rfl _ _ rfl rfl lw rfl (by have := hlw.1; omega) ?_; intro v3 w3 hB3)
          go_roundw
          case rel => exact ⟨k + 1, _, some false, by omega, by go_num, hB3, HW.out.word hlw, .inr ⟨by omega, rfl⟩, by have := hlw.1; simp only [List.length_append]; omega⟩
          case measure => simp [intOf]; omega
        · have hki : (0 : Int) < (k : Int) := by omega
          have ho : o = some false := HO.out.elim (fun h => absurd h.1 (by omega)) (fun h => h.2)
          have HOut : Hid (Out o) := .inr ho
          clear ho hk0
          go_wp2_with fail
          refine (close_any w1 hBr.below (by omega) k (by omega) w.heap.size (w.heap.size + 1) cr hBr.box1 hBr.box2).mono ?_
          rintro e w' ⟨⟨ls, hls, rfl⟩, n, rfl⟩
          go_upto_region 12 with (at_builtin; refine wpList_app (hBr.drewN n) rfl _ _ rfl rfl ls rfl (by have := hls.1; omega) ?_; intro v2 w2 hB2)
          have hcw : w2.cell? ⟨b, off + k, none⟩ = some (.int .u8 (z0.getD k 0)) := by rw [hB2.below.cell (p := ⟨b, off + k, none⟩) hbl]; exact hcs k hlt
          go_wp2_with fail
          refine (word_any _ cr _ hb0 hb1).mono ?_
          rintro e w' ⟨⟨lw, hlw, rfl⟩, rfl⟩
          go_wp2_with (at_builtin; refine wpList_app hB2 rfl _ _ rfl rfl lw rfl (by have := hlw.1; have := hls.1; simp only [List.length_append]; omega) ?_; intro v3 w3 hB3)
          go_roundw
          case rel => exact ⟨k + 1, _, some false, by omega, by go_num, hB3, (hWr.sep HOut.out hls).word hlw, .inr ⟨by omega, rfl⟩, by have := hlw.1; have := hls.1; simp only [List.length_append]; omega⟩
          case measure => simp [intOf]; omega
      · have HK : Hid (k = len0) := by show k = len0; omega
        go_upto_if 53 with fail
        go_cut [11] from 53 (fun v wd => ∃ (L' : List UInt8) (o' : Option Bool), Bs w wd a1 len1 cap1 cr v L' ∧ Wrote cr L' len0 o' ∧ L'.length ≤ 20000)
        case first =>
          cases a3
          · go_wp2_with fail
            go_meet
            case rel => exact ⟨L, o, hBr, HK.out ▸ hWr, by omega⟩
          · go_wp2_with fail
            refine (close_any w1 hBr.below (by omega) len0 (by omega) w.heap.size (w.heap.size + 1) cr hBr.box1 hBr.box2).mono ?_
            rintro e w' ⟨⟨ls, hls, rfl⟩, n, rfl⟩
            go_wp2_with (at_builtin; refine wpList_app (hBr.drewN n) rfl _ _ rfl rfl ls rfl (by have := hls.1; omega) ?_; intro v2 w2 hB2)
            go_meet
            case rel => exact ⟨_, none, hB2, (HK.out ▸ hWr).sep (HO.out.elim (fun h => .inl h.2) (fun h => .inr h.2)) hls, by have := hls.1; simp only [List.length_append]; omega⟩
        case rest =>
          obtain ⟨L', o', hB', hW', hL'⟩ := hcut
          have hcv := hB'.conv
          have hbx := hB'.box2
          have HD : Hid (cnt cr none (byt ⟨L'.toArray⟩) = len0) := by
            show cnt cr none (byt ⟨L'.toArray⟩) = len0
            rw [byt_of]
            exact hW'.done
          go_wp2_with (go_at_call 7; refine (Tok.count_any ⟨L'.toArray⟩ cr _ ?_).mono ?_; (simp [ByteArray.size, maxLen]; omega); rintro e w' ⟨rfl, rfl⟩)
          go_ret
          exact ⟨by rw [HD.out]; simp, hB'.below⟩
end Go.Proofs.Ybulkbeuk.Parts
