/- The walk of LawS2793BNoShare. -/
import Derived.Test.YbulkbeuyBuild
namespace Go.Proofs.Ybulkbeuy.Sh
open Go.ChangeShapes Go.WideShapes Go.ChangeAt Go.RowKit
set_option linter.unusedSimpArgs false
set_option linter.unusedVariables false

theorem SAt.below {w w' : World} {b0 : Nat} {v : Value} {es : List (ByteArray × List Int)} (h : SAt w b0 v es) (hb : Below w.heap.size w w') : SAt w' b0 v es := by
  obtain ⟨xs, h1, h2⟩ := h
  exact ⟨xs, own_below h1 hb, fun i hi => ⟨(h2 i hi).1, by obtain ⟨u, a, b⟩ := (h2 i hi).2; exact ⟨u, a, b.below hb⟩⟩⟩

/-- a byte is written into a block of bytes -/
theorem Loc.byte {B : Nat} {w : World} {v : Value} (h : Loc B w v) {g : Nat} {cur : Array Value} (hg : w.heap[g]? = some (.cells cur 5 (0, 0))) (j : Nat) {z : Int} (h0 : 0 ≤ z) (h1 : z ≤ 255) : Loc B (w.setCell ⟨g, j, none⟩ (.int .u8 z)) v := by
  rcases h with h | ⟨g', len, cap, rfl, hl, hB, cur', hg', hz⟩
  · exact .inl h
  · by_cases he : g' = g
    · subst he
      rw [hg] at hg'
      simp only [Option.some.injEq, Obj.cells.injEq, and_true] at hg'
      subst hg'
      refine .inr ⟨g', len, cap, rfl, hl, hB, cur.setIfInBounds j (.int .u8 z), heap_setCell_same w g' j cur 5 _ hg, fun i hi => ?_⟩
      obtain ⟨z', e, b⟩ := hz i hi
      by_cases hij : j = i
      · subst hij
        refine ⟨z, ?_, h0, h1⟩
        have : j < cur.size := by
          rcases Nat.lt_or_ge j cur.size with h | h
          · exact h
          · simp [Array.getElem?_eq_none h] at e
        simp [Array.getElem?_setIfInBounds, this]
      · exact ⟨z', by rw [Array.getElem?_setIfInBounds, if_neg hij]; exact e, b⟩
    · refine .inr ⟨g', len, cap, rfl, hl, hB, cur', ?_, hz⟩
      rw [Below.heap_setCell _ _ _ _ he]
      exact hg'

/-- the copy, its cells named -/
def OutX (B : Nat) (w : World) (v : Value) (n : Nat) (xs : List Value) : Prop :=
  w.ownsRow B 32 2 v n xs ∧ ∀ i, i < n → (∃ s, xs[i * 2]? = some (.string s)) ∧ ∃ u, xs[i * 2 + 1]? = some u ∧ Loc B w u
def Short (n k : Nat) (xs : List Value) : Prop := ∀ i, k ≤ i → i < n → ∃ s, xs[i * 2]? = some (.string s) ∧ s.size ≤ 140737488351232

theorem OutX.byte {B n g h cap : Nat} {w : World} {xs : List Value} (H : OutX B w (.slice (some ⟨g, 0, none⟩) n cap) n xs) {cur : Array Value} (hg : w.heap[h]? = some (.cells cur 5 (0, 0))) (j : Nat) {z : Int} (h0 : 0 ≤ z) (h1 : z ≤ 255) : OutX B (w.setCell ⟨h, j, none⟩ (.int .u8 z)) (.slice (some ⟨g, 0, none⟩) n cap) n xs := by
  obtain ⟨hO, hx⟩ := H
  obtain ⟨hBg, cur', hg'⟩ := own_heap hO
  have hne : g ≠ h := by
    intro e
    subst e
    rw [hg] at hg'
    simp at hg'
  refine ⟨hO.kept (row := some h) ⟨rfl, rfl, rfl, by simp, fun k _ hk => Below.heap_setCell _ _ _ _ (fun e => hk (by rw [e]))⟩ (.inr (by simpa [Value.ownBlock] using hne)), fun i hi => ?_⟩
  obtain ⟨a, u, b, c⟩ := hx i hi
  exact ⟨a, u, b, c.byte hg j h0 h1⟩

theorem OutX.name {B n g cap k : Nat} {w : World} {xs : List Value} (H : OutX B w (.slice (some ⟨g, 0, none⟩) n cap) n xs) (hS : Short n k xs) (hk : k < n) (s : ByteArray) :
    OutX B (w.setCell ⟨g, k * 2, none⟩ (.string s)) (.slice (some ⟨g, 0, none⟩) n cap) n (xs.set (k * 2) (.string s)) ∧ Short n (k + 1) (xs.set (k * 2) (.string s)) := by
  obtain ⟨hO, hx⟩ := H
  obtain ⟨hBg, cur', hg'⟩ := own_heap hO
  have hlen := hO.1
  refine ⟨⟨(hO.stored (k * 2) (.string s)).1, fun i hi => ?_⟩, fun i h1 h2 => ?_⟩
  · obtain ⟨⟨s', a⟩, u, b, c⟩ := hx i hi
    refine ⟨?_, u, by rw [List.getElem?_set_ne (by omega)]; exact b, c.other (p := 0) hg' _ _⟩
    by_cases hik : i = k
    · subst hik
      exact ⟨s, by rw [List.getElem?_set_self (by omega)]⟩
    · exact ⟨s', by rw [List.getElem?_set_ne (by omega)]; exact a⟩
  · obtain ⟨s', a, b⟩ := hS i (by omega) h2
    exact ⟨s', by rw [List.getElem?_set_ne (by omega)]; exact a, b⟩

theorem OutX.drew {B n : Nat} {w : World} {v : Value} {xs : List Value} (H : OutX B w v n xs) : OutX B w.drew v n xs := H
theorem xor_byte (z : Int) (h0 : 0 ≤ z) (h1 : z ≤ 255) : 0 ≤ bits .xor .u8 z 255 ∧ bits .xor .u8 z 255 ≤ 255 := by
  have key : ∀ n : Fin 256, 0 ≤ bits .xor .u8 (n.val : Int) 255 ∧ bits .xor .u8 (n.val : Int) 255 ≤ 255 := by decide +kernel
  have := key ⟨z.toNat, by omega⟩
  simpa [Int.toNat_of_nonneg h0] using this

theorem Bytes.drewN {w : World} {v : Value} {zs : List Int} (h : Bytes w v zs) (n : Nat) : Bytes (w.drewN n) v zs := h

theorem below_drewN {B : Nat} {a w : World} (h : Below B a w) (n : Nat) : Below B a (w.drewN n) := ⟨h.os, h.tape, h.output, h.size, h.block⟩
theorem quiet_add {f : FuncId} {args : Array Value} {w : World} {a n : Nat} {v : Value} (h : Calls Yba.prog f args (w.drewN (a + n)) fun e w' => e = .returned v ∧ w' = w.drewN (a + n)) : Calls Yba.prog f args (w.drewN (a + n)) fun e w'' => e = .returned v ∧ ∃ m, w'' = w.drewN (a + m) :=
  h.mono fun _ _ ⟨he, hm⟩ => ⟨he, n, hm⟩

theorem OutAt.open {B n : Nat} {w : World} {v : Value} (h : OutAt B w v n 0) : ∃ xs, OutX B w v n xs ∧ Short n 0 xs := by
  obtain ⟨xs, h1, h2⟩ := h
  refine ⟨xs, ⟨h1, fun i hi => ?_⟩, fun i _ hi => ?_⟩
  · obtain ⟨⟨s, a, _⟩, b⟩ := h2 i hi
    exact ⟨⟨s, a⟩, b⟩
  · obtain ⟨⟨s, a, c⟩, _⟩ := h2 i hi
    exact ⟨s, a, c (Nat.zero_le _)⟩

set_option maxRecDepth 100000 in
set_option maxHeartbeats 3200000 in
theorem share_walk (ve : Value) (held : Bool) (es : List (ByteArray × List Int)) (w : World) (hv : EAt w ve es) (hsz : ∀ i, i < es.length → (ent es i).1.size ≤ 140737488351232) :
    Calls Yba.prog 4 #[ve, .bool held] w fun e w' => e = .returned (.bool true) ∧ Below w.heap.size w w' := by
  have HV := hidMk hv
  have HS := hidMk hsz
  obtain ⟨a, cap, rfl, ha, hc⟩ := hv
  have HC := hidMk hc
  clear hc hsz ha
  by_cases g0 : (1024 : Int) < (es.length : Int)
  · go_enter Yba.func4, Yba.ntmps4
    go_wp2_with fail
    go_ret
    exact ⟨rfl, Below.refl _ _⟩
  go_enter Yba.func4, Yba.ntmps4
  go_wp2_with fail
  go_loopw [5] (fun i wr => ∃ k : Nat, k ≤ es.length ∧ i = .int .i64 (k : Int) ∧ wr = w ∧ Hid (∀ i, i < k → (ent es i).2.length ≤ 4096)) (fun i _ => es.length - (intOf i).toNat)
  case atStart => exact ⟨0, Nat.zero_le _, rfl, rfl, fun i hi => by omega⟩
  case round =>
    obtain ⟨k, hk, rfl, rfl, HL⟩ := hrel
    by_cases hlt : k < es.length
    · rcases HC.out with h0 | ⟨b, off, rfl, hcell⟩
      · omega
      obtain ⟨_, u, ck, hbu⟩ := hcell k hlt
      clear hcell
      obtain ⟨a1, c1, rfl, _, _⟩ := hbu
      by_cases hg : (4096 : Int) < ((ent es k).2.length : Int)
      · go_wp2_with fail
        go_ret
        exact ⟨rfl, Below.refl _ _⟩
      · go_wp2_with fail
        go_roundw
        case rel =>
          refine ⟨k + 1, by omega, by go_num, trivial, fun i hi => ?_⟩
          by_cases hik : i = k
          · subst hik
            omega
          · exact HL.out i (by omega)
        case measure => simp [intOf]; omega
    · go_wp2_with fail
      have HL2 := hidMk (fun i (hi : i < es.length) => HL.out i (by omega))
      refine (build_any _ es _ HV.out (by omega) HL2.out).mono ?_
      rintro e w1 ⟨vs, rfl, hB1, hS1⟩
      have H1 := hidMk (And.intro hB1 hS1)
      obtain ⟨xs1, hs1, _⟩ := hS1
      obtain ⟨a_s, caps, rfl, has⟩ := own_shape hs1
      clear hB1 hs1
      go_wp2_with fail
      refine (copy_any _ held es w1 H1.out.2 (by omega) HL2.out HS.out).mono ?_
      rintro e w2 ⟨vo, rfl, hB2, hO2⟩
      obtain ⟨xs2, hx2, hsh2⟩ := hO2.open
      obtain ⟨ao, capo, rfl, hao⟩ := own_shape hx2.1
      have H2 := hidMk (And.intro hB2 (And.intro hx2 hsh2))
      clear hB2 hO2 hx2 hsh2
      go_wp2_with fail
      go_loopw [8, 9] (fun i _ wr => ∃ k : Nat, k ≤ es.length ∧ i = .int .i64 (k : Int) ∧ Below w1.heap.size w1 wr ∧ ∃ xs, Hid (OutX w1.heap.size wr (.slice ao es.length capo) es.length xs ∧ Short es.length k xs)) (fun i _ _ => es.length - (intOf i).toNat)
      case atStart => exact ⟨0, Nat.zero_le _, rfl, H2.out.1, xs2, H2.out.2⟩
      case round =>
        rename_i wq
        obtain ⟨k, hk, rfl, hB, xs, HX⟩ := hrel
        by_cases hlt : k < es.length
        · rcases hao with h0 | ⟨g, rfl⟩
          · omega
          obtain ⟨s, hs1, hs2⟩ := HX.out.2 k (Nat.le_refl _) hlt
          obtain ⟨_, u, hu, hL⟩ := HX.out.1.2 k hlt
          have ck1 : wr.cell? ⟨g, k * 2, none⟩ = some (.string s) := (HX.out.1.1.cellAt _ (by omega)).trans hs1
          have ck2 : wr.cell? ⟨g, k * 2 + 1, none⟩ = some u := (HX.out.1.1.cellAt _ (by omega)).trans hu
          have cf1 : wr.frozen? ⟨g, k * 2, none⟩ = false := HX.out.1.1.frozenAt _
          have HN := hidMk (fun x => HX.out.1.name HX.out.2 hlt x)
          have hBg := (own_heap HX.out.1.1).1
          have hbB := hB.size
          have HU := hidMk (And.intro hu hL)
          have HLen := hidMk HX.out.1.1.1
          clear hu hL hs1
          obtain ⟨a1, l1, c1, rfl⟩ := HU.out.2.shape
          go_wp2_with fail
          go_loopw [9] (fun j wr3 => ∃ m : Nat, m ≤ l1 ∧ j = .int .i64 (m : Int) ∧ Below w1.heap.size w1 wr3 ∧ Hid (OutX w1.heap.size wr3 (.slice (some ⟨g, 0, none⟩) es.length capo) es.length (xs.set (k * 2) (.string (s ++ ⟨#[35]⟩))))) (fun j _ => l1 - (intOf j).toNat)
          case atStart => exact ⟨0, Nat.zero_le _, rfl, hB.setCell hBg _, (HN.out _).1⟩
          case round =>
            obtain ⟨m, hm, rfl, hB3, HX3⟩ := hrel
            have hlen := HLen.out
            have hu3 : (xs.set (k * 2) (.string (s ++ ⟨#[35]⟩)))[k * 2 + 1]? = some (.slice a1 l1 c1) := by rw [List.getElem?_set_ne (by omega)]; exact HU.out.1
            have ck3 : wr.cell? ⟨g, k * 2 + 1, none⟩ = some (.slice a1 l1 c1) := (HX3.out.1.cellAt _ (by omega)).trans hu3
            obtain ⟨_, u', hu', hL'⟩ := HX3.out.2 k hlt
            rw [hu3] at hu'
            cases hu'
            clear hu3
            have HL3 := hidMk hL'
            clear hL'
            by_cases hml : m < l1
            · rcases HL3.out with hn | ⟨h, len, cap', he, hlen', hBh, cur, hg, hz⟩
              · cases hn
                omega
              cases he
              obtain ⟨z, hz1, hz2, hz3⟩ := hz m hml
              clear hz
              have cz : wr.cell? ⟨h, m, none⟩ = some (.int .u8 z) := by simp only [World.cell?, hg]; simpa using hz1
              have cfz : wr.frozen? ⟨h, m, none⟩ = false := frozen_of_row wr h m cur 5 hg
              have HG := hidMk hg
              clear hg hz1
              go_upto_region 19 with fail
              go_region_law (fail)
              all_goals
                go_wp2_with fail
                go_roundw
                case rel => exact ⟨m + 1, by omega, by go_num, (hB3.setCell hBh _).drew, (HX3.out.byte HG.out m (xor_byte z hz2 hz3).1 (xor_byte z hz2 hz3).2).drew⟩
                case measure => simp [intOf]; omega
            · go_wp2_with fail
              go_roundw
              case rel => exact ⟨k + 1, by omega, by go_num, hB3, _, HX3.out, (HN.out _).2⟩
              case measure => simp [intOf]; omega
        · go_wp2_with fail
          have H4 := hidMk (And.intro (H1.out.1.trans (hB.mono H1.out.1.size)) hB)
          have HE4 := hidMk (HV.out.below H4.out.1)
          have HS4 := hidMk (H1.out.2.below hB)
          clear hB
          generalize hw4 : wr = w4 at H4 HE4 HS4 ⊢
          clear hw4
          go_loopw [10] (fun i wr => ∃ k : Nat, k ≤ es.length ∧ i = .int .i64 (k : Int) ∧ Hid (Below w4.heap.size w4 wr)) (fun i _ => es.length - (intOf i).toNat)
          case atStart => exact ⟨0, Nat.zero_le _, rfl, Below.refl _ _⟩
          case round =>
            obtain ⟨q, hq, rfl, HB5⟩ := hrel
            by_cases hlt4 : q < es.length
            · obtain ⟨aE, capE, heE, _, hcE⟩ := HE4.out.below HB5.out
              cases heE
              rcases hcE with h0 | ⟨b, off, rfl, hcell⟩
              · omega
              obtain ⟨e1, u1, e2, hb1⟩ := hcell q hlt4
              clear hcell
              obtain ⟨xs4, ho4, hx4⟩ := HS4.out.below HB5.out
              rcases has with h0 | ⟨gs, rfl⟩
              · omega
              obtain ⟨x1, u2, x2, hb2⟩ := hx4 q hlt4
              have d1 := (ho4.cellAt (q * 2) (by omega)).trans x1
              have d2 := (ho4.cellAt (q * 2 + 1) (by omega)).trans x2
              have HQ := hidMk (And.intro hb2 hb1)
              clear hx4 ho4 x1 x2
              obtain ⟨a7, l7, c7, rfl⟩ := hb1.shape
              obtain ⟨a8, l8, c8, rfl⟩ := hb2.shape
              clear hb1 hb2
              generalize (ent es q).1 = pq at e1 d1
              go_upto_region 23 with fail
              go_quiet (fail)
              go_upto_region 25 with fail
              go_quiet ((go_at_call 7; exact quiet_add (equal_any _ _ _ _ (HQ.out.1.drewN _) (HQ.out.2.drewN _))))
              go_wp2_with fail
              go_roundw
              case rel => exact ⟨q + 1, by omega, by go_num, below_drewN HB5.out _⟩
              case measure => simp [intOf]; omega
            · go_wp2_with fail
              go_ret
              exact ⟨rfl, H4.out.1.trans (HB5.out.mono H4.out.1.size)⟩
end Go.Proofs.Ybulkbeuy.Sh
