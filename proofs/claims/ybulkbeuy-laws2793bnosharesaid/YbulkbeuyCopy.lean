/- cloneNotAllowedPLMNs. -/
import Derived.Test.YbulkbeuyGen
namespace Go.Proofs.Ybulkbeuy.Sh
open Go.ChangeShapes Go.WideShapes Go.ChangeAt Go.RowKit
set_option linter.unusedSimpArgs false
set_option linter.unusedVariables false

/-- entry i -/
def ent (es : List (ByteArray × List Int)) (i : Nat) : ByteArray × List Int := es.getD i (ByteArray.empty, [])

/-- the list that the law builds -/
def SAt (w : World) (base : Nat) (v : Value) (es : List (ByteArray × List Int)) : Prop :=
  ∃ xs, w.ownsRow base 32 2 v es.length xs ∧ ∀ i, i < es.length → xs[i * 2]? = some (.string (ent es i).1) ∧ ∃ u, xs[i * 2 + 1]? = some u ∧ Bytes w u (ent es i).2

/-- the copy -/
def OutAt (B : Nat) (w : World) (v : Value) (n k : Nat) : Prop :=
  ∃ xs, w.ownsRow B 32 2 v n xs ∧ ∀ i, i < n → (∃ s, xs[i * 2]? = some (.string s) ∧ (k ≤ i → s.size ≤ 140737488351232)) ∧ ∃ u, xs[i * 2 + 1]? = some u ∧ Loc B w u

theorem grown_of_below {w w' : World} (h : Below w.heap.size w w') : w.grownBy w' none := ⟨h.os, h.tape, h.output, h.size, fun k hk _ => h.block k hk⟩
theorem own_below {w w' : World} {B e s n : Nat} {v : Value} {xs : List Value} (h : w.ownsRow B e s v n xs) (hb : Below w.heap.size w w') : w'.ownsRow B e s v n xs := h.kept (grown_of_below hb) (by cases hv : v.ownBlock <;> simp)
theorem own_shape {w : World} {B e s n : Nat} {v : Value} {xs : List Value} (h : w.ownsRow B e s v n xs) : ∃ a cap, v = .slice a n cap ∧ (n = 0 ∨ ∃ g, a = some ⟨g, 0, none⟩) := by
  rcases h.2 with ⟨rfl, rfl⟩ | ⟨g, cap, cur, rfl, _⟩
  · exact ⟨none, 0, rfl, .inl rfl⟩
  · exact ⟨some ⟨g, 0, none⟩, cap, rfl, .inr ⟨g, rfl⟩⟩
theorem own_heap {w : World} {B e s n g cap : Nat} {xs : List Value} (h : w.ownsRow B e s (.slice (some ⟨g, 0, none⟩) n cap) n xs) : B ≤ g ∧ ∃ cur, w.heap[g]? = some (.cells cur e (0, 0)) := by
  rcases h.2 with ⟨h', _⟩ | ⟨g', cap', cur, h', hb, hg, _⟩
  · simp at h'
  · cases h'
    exact ⟨hb, cur, hg⟩

theorem lt_of_heap {w : World} {g : Nat} {o : Obj} (h : w.heap[g]? = some o) : g < w.heap.size := by
  by_cases hb : g < w.heap.size
  · exact hb
  · simp [Array.getElem?_eq_none (Nat.le_of_not_lt hb)] at h

theorem Loc.below {B : Nat} {w w' : World} {v : Value} (h : Loc B w v) (hb : Below w.heap.size w w') : Loc B w' v := by
  rcases h with h | ⟨g, len, cap, rfl, hl, hB, cur, hg, hz⟩
  · exact .inl h
  · exact .inr ⟨g, len, cap, rfl, hl, hB, cur, by rw [hb.block g (lt_of_heap hg)]; exact hg, hz⟩
theorem Loc.mono {B B' : Nat} {w : World} {v : Value} (h : Loc B w v) (hB' : B' ≤ B) : Loc B' w v := by
  rcases h with h | ⟨g, len, cap, rfl, hl, hB, hx⟩
  · exact .inl h
  · exact .inr ⟨g, len, cap, rfl, hl, Nat.le_trans hB' hB, hx⟩
/-- a cell of a block of another element type is written -/
theorem Loc.other {B : Nat} {w : World} {v : Value} (h : Loc B w v) {p g : Nat} {cur : Array Value} (hg : w.heap[g]? = some (.cells cur 32 (0, 0))) (j : Nat) (u : Value) : Loc B (w.setCell ⟨g, j, none⟩ u) v := by
  rcases h with h | ⟨g', len, cap, rfl, hl, hB, cur', hg', hz⟩
  · exact .inl h
  · refine .inr ⟨g', len, cap, rfl, hl, hB, cur', ?_, hz⟩
    rw [Below.heap_setCell _ _ _ _ (by
      intro he
      have : g' = g := he
      subst this
      rw [hg] at hg'
      simp at hg')]
    exact hg'
theorem Loc.shape {B : Nat} {w : World} {v : Value} (h : Loc B w v) : ∃ a len cap, v = .slice a len cap := by
  rcases h with h | ⟨g, len, cap, rfl, _⟩
  · exact ⟨_, _, _, h⟩
  · exact ⟨_, _, _, rfl⟩
theorem Bytes.shape {w : World} {v : Value} {zs : List Int} (h : Bytes w v zs) : ∃ a len cap, v = .slice a len cap := by
  obtain ⟨a, cap, rfl, _⟩ := h
  exact ⟨_, _, _, rfl⟩

theorem SAt.oneCell {w : World} {es : List (ByteArray × List Int)} {xs : List Value} (hl : xs.length = es.length * 2) (h : ∀ i, i < es.length → xs[i * 2]? = some (.string (ent es i).1) ∧ ∃ u, xs[i * 2 + 1]? = some u ∧ Bytes w u (ent es i).2) : ∀ u ∈ xs, u.oneCell' = true := by
  intro u hu
  obtain ⟨j, hj, rfl⟩ := List.getElem_of_mem hu
  obtain ⟨h1, u, h2, h3⟩ := h (j / 2) (by omega)
  rcases Nat.mod_two_eq_zero_or_one j with hm | hm
  · have : j / 2 * 2 = j := by omega
    rw [this, List.getElem?_eq_getElem hj] at h1
    rw [Option.some.inj h1]
    rfl
  · have : j / 2 * 2 + 1 = j := by omega
    rw [this, List.getElem?_eq_getElem hj] at h2
    obtain ⟨a, l, c, e⟩ := h3.shape
    rw [Option.some.inj h2, e]
    rfl

set_option maxHeartbeats 800000 in
theorem copy_any {b0 : Nat} (v : Value) (held : Bool) (es : List (ByteArray × List Int)) (w : World) (hs : SAt w b0 v es) (hn : es.length ≤ 1024) (hl : ∀ i, i < es.length → (ent es i).2.length ≤ 4096) (hsz : ∀ i, i < es.length → (ent es i).1.size ≤ 140737488351232) :
    Calls Yba.prog 6 #[v, .bool held] w fun e w' => ∃ u, e = .returned u ∧ Below w.heap.size w w' ∧ OutAt w.heap.size w' u es.length 0 := by
  obtain ⟨xs, hown, hx⟩ := hs
  have HG := hidMk (gen_any v held es.length xs w hown hn (SAt.oneCell hown.1 hx))
  have HX := hidMk hx
  have HL := hidMk hl
  have HS := hidMk hsz
  clear hx hown hl hsz
  go_enter Yba.func6, Yba.ntmps6
  go_wp2_with fail
  refine HG.out.mono ?_
  rintro e w1 ⟨u, rfl, hB1, hO1⟩
  obtain ⟨a, cap, rfl, ha⟩ := own_shape hO1
  have H1 := hidMk (And.intro hB1 hO1)
  clear hB1 hO1
  go_wp2_with fail
  go_loopw [6, 12] (fun _ i wr => ∃ k : Nat, k ≤ es.length ∧ i = .int .i64 (k : Int) ∧ Below w.heap.size w wr ∧ ∃ ys, wr.ownsRow w.heap.size 32 2 (.slice a es.length cap) es.length ys ∧ Hid (∀ i, i < es.length → ys[i * 2]? = some (.string (ent es i).1) ∧ (i < k → ∃ u, ys[i * 2 + 1]? = some u ∧ Loc w.heap.size wr u) ∧ (k ≤ i → ∃ u, ys[i * 2 + 1]? = some u ∧ Bytes w u (ent es i).2))) (fun _ i _ => es.length - (intOf i).toNat)
  case atStart => exact ⟨0, Nat.zero_le _, rfl, H1.out.1, xs, H1.out.2, fun i hi => ⟨(HX.out i hi).1, fun h => by omega, fun _ => (HX.out i hi).2⟩⟩
  case round =>
    obtain ⟨k, hk, rfl, hB, ys, hO, HY⟩ := hrel
    by_cases hlt : k < es.length
    · rcases ha with h0 | ⟨g, rfl⟩
      · omega
      obtain ⟨_, _, hyk⟩ := HY.out k hlt
      obtain ⟨u, hu, hbu⟩ := hyk (Nat.le_refl _)
      have ck : wr.cell? ⟨g, k * 2 + 1, none⟩ = some u := (hO.cellAt _ (by omega)).trans hu
      have HC := hidMk (clone_any u _ wr (hbu.below hB) (HL.out k hlt))
      obtain ⟨a1, l1, c1, rfl⟩ := hbu.shape
      have HO := hidMk hO
      clear hO hyk hu hbu
      go_wp2_with fail
      refine HC.out.mono ?_
      rintro e w2 ⟨u2, rfl, hB2, hL2⟩
      obtain ⟨a2, l2, c2, rfl⟩ := hL2.shape
      have HO2 := hidMk (own_below HO.out hB2)
      have ck2 : w2.cell? ⟨g, k * 2 + 1, none⟩ = some (.slice a1 l1 c1) := by rw [hB2.cell (lt_of_cell ck)]; exact ck
      have cf2 : w2.frozen? ⟨g, k * 2 + 1, none⟩ = false := HO2.out.frozenAt _
      have HB2 := hidMk (And.intro hB2 hL2)
      clear hB2 hL2
      go_wp2_with fail
      obtain ⟨hBg, cur, hg⟩ := own_heap HO2.out
      have hsz := hB.size
      have hgw : w.heap.size ≤ g := hBg
      go_roundw
      case rel =>
        refine ⟨k + 1, by omega, by go_num, (hB.trans (HB2.out.1.mono hB.size)).setCell hgw _, _, (HO2.out.stored (k * 2 + 1) (.slice a2 l2 c2)).1, ?_⟩
        intro i hi
        obtain ⟨y1, y2, y3⟩ := HY.out i hi
        have hlen := HO.out.1
        refine ⟨by rw [List.getElem?_set_ne (by omega)]; exact y1, fun h => ?_, fun h => ?_⟩
        · by_cases hik : i = k
          · subst hik
            exact ⟨_, by rw [List.getElem?_set_self (by omega)], (HB2.out.2.mono hB.size).other (p := 0) hg _ _⟩
          · obtain ⟨u, hu, hL⟩ := y2 (by omega)
            exact ⟨u, by rw [List.getElem?_set_ne (by omega)]; exact hu, (hL.below HB2.out.1).other (p := 0) hg _ _⟩
        · obtain ⟨u, hu, hb⟩ := y3 (by omega)
          exact ⟨u, by rw [List.getElem?_set_ne (by omega)]; exact hu, hb⟩
      case measure => simp [intOf]; omega
    · go_wp2_with fail
      go_ret
      refine ⟨_, rfl, hB, ys, hO, fun i hi => ?_⟩
      obtain ⟨y1, y2, _⟩ := HY.out i hi
      exact ⟨⟨_, y1, fun _ => HS.out i hi⟩, y2 (by omega)⟩
end Go.Proofs.Ybulkbeuy.Sh
