/- The walk of rolesOf. -/
import Derived.Test.YbulkbeukReach
import Derived.Deep.LoopGhost
namespace Go.Proofs.Ybulkbeuk.Adm
open Go.ChangeShapes Go.WideShapes Go.ChangeAt Go.RowKit Go.Proofs.Ybulkbeuk.MapF
set_option linter.unusedSimpArgs false
set_option linter.unusedVariables false

theorem info9 : (Yba.prog.info? 9).map (fun i => (i.zero, i.size, i.bytes)) = some (some (.string ⟨#[]⟩), 1, 16) := by kernel_rfl
theorem zeroSlice (w : World) : (zeroValue 31).run Yba.prog w = .ok (.slice none 0 0) w := by kernel_rfl

theorem map_ne_row {w : World} {b n B e s m g cap : Nat} {z : Value} {f : List UInt8 → Value} {xs : List Value} (h : MapIs w b n z f) (ho : w.ownsRow B e s (.slice (some ⟨g, 0, none⟩) m cap) m xs) : b ≠ g := by
  obtain ⟨D, ⟨es, clock, hb0, F, hs, hD⟩, h2⟩ := h
  rcases ho.2 with ⟨h', _⟩ | ⟨g', cap', cur, h', hb, hg, _⟩
  · simp at h'
  · cases h'
    intro e
    subst e
    rw [hb0] at hg
    simp at hg

theorem own_pop {w : World} {B e g cap n : Nat} {xs : List Value} {x : Value} (h : w.ownsRow B e 1 (.slice (some ⟨g, 0, none⟩) (n + 1) cap) (n + 1) (xs ++ [x])) : w.ownsRow B e 1 (.slice (some ⟨g, 0, none⟩) n cap) n xs := by
  have hl := h.1
  simp only [List.length_append, List.length_cons, List.length_nil] at hl
  rcases h.2 with ⟨h', _⟩ | ⟨g', cap', cur, h', hb, hg, hn, hm, hs, ht⟩
  · simp at h'
  · cases h'
    refine ⟨by omega, .inr ⟨g, cap, cur, rfl, hb, hg, by omega, hm, hs, ?_⟩⟩
    have : (cur.toList.take ((n + 1) * 1)).take (n * 1) = (xs ++ [x]).take (n * 1) := by rw [ht]
    rw [List.take_take, Nat.min_eq_left (by omega)] at this
    rw [this, List.take_append_of_le_length (by omega), List.take_of_length_le (by omega)]

/-- the texts of T in a row of the call's own -/
def Row (B : Nat) (w : World) (v : Value) (T : List ByteArray) : Prop := w.ownsRow B 9 1 v T.length (T.map Value.string)
theorem strs_oneCell (T : List ByteArray) : ∀ u ∈ T.map Value.string, u.oneCell' = true := by
  intro u hu
  obtain ⟨x, _, rfl⟩ := List.mem_map.1 hu
  rfl
theorem Row.cell {B : Nat} {w : World} {g cap : Nat} {T : List ByteArray} (h : Row B w (.slice (some ⟨g, 0, none⟩) T.length cap) T) {j : Nat} {x : ByteArray} (hx : T[j]? = some x) : w.cell? ⟨g, j, none⟩ = some (.string x) := by
  have hj : j < T.length := by
    rcases Nat.lt_or_ge j T.length with h | h
    · exact h
    · simp [List.getElem?_eq_none h] at hx
  rw [World.ownsRow.cellAt h j (by omega), List.getElem?_map, hx]
  rfl
theorem Row.strs {B : Nat} {w : World} {v : Value} {T : List ByteArray} (h : Row B w v T) : StrsAt w v T := by
  rcases h.2 with ⟨rfl, h0⟩ | ⟨g, cap, cur, rfl, _⟩
  · exact ⟨none, 0, by rw [h0], .inl h0⟩
  · refine ⟨_, cap, rfl, .inr ⟨g, 0, rfl, fun i hi => ?_⟩⟩
    rw [Nat.zero_add]
    exact Row.cell h (by rw [List.getD_eq_getElem?_getD, List.getElem?_eq_getElem hi]; rfl)
theorem Row.shape {B : Nat} {w : World} {v : Value} {T : List ByteArray} (h : Row B w v T) (hn : 0 < T.length) : ∃ g cap, v = .slice (some ⟨g, 0, none⟩) T.length cap := by
  rcases h.2 with ⟨rfl, h0⟩ | ⟨g, cap, cur, rfl, _⟩
  · omega
  · exact ⟨g, cap, rfl⟩
theorem Row.ge {B : Nat} {w : World} {g cap : Nat} {T : List ByteArray} (h : Row B w (.slice (some ⟨g, 0, none⟩) T.length cap) T) : B ≤ g := (h.lt g rfl).1

theorem snoc_of {α : Type} (T : List α) (h : 0 < T.length) : ∃ T' x, T = T' ++ [x] := by
  have hne : T ≠ [] := by intro e; simp [e] at h
  exact ⟨T.dropLast, T.getLast hne, (List.dropLast_concat_getLast hne).symm⟩

/-- what rolesOf gives: ok: whether the user is there at all -/
def Got (es : List (ByteArray × ByteArray)) (user : ByteArray) (ok : Bool) (A : List ByteArray) : Prop := if ok then ∀ s, s ∈ A ↔ Reach es user s else A = []

structure GraphAt (w : World) (gb : Nat) (es : List (ByteArray × ByteArray)) (user : ByteArray) (ok : Bool) : Prop where
  graph : ∃ mb n mv, w.cell? ⟨gb, 0, none⟩ = some (.map (some mb)) ∧ MapIs w mb n (.slice none 0 0) mv ∧ ∀ l, StrsAt w (mv l) (groups es l)
  exist : (w.cell? ⟨gb, 1, none⟩ = some (.map none) ∧ ok = true) ∨ ∃ xb n roles, w.cell? ⟨gb, 1, none⟩ = some (.map (some xb)) ∧ MapIs w xb n (.bool false) (memb roles) ∧ ok = inL roles user
  size : ∀ e ∈ es, e.2.size ≤ maxLen
  usize : user.size ≤ maxLen
  len : es.length ≤ 256

set_option maxRecDepth 100000 in
set_option maxHeartbeats 3200000 in
theorem roles_any (gb : Nat) (es : List (ByteArray × ByteArray)) (user : ByteArray) (ok : Bool) (w : World) (hG : GraphAt w gb es user ok) :
    Calls Yba.prog 21 #[.pointer (some ⟨gb, 0, none⟩), .string user] w fun e w' => ∃ rb k A, e = .returned (.map (some rb)) ∧ Below w.heap.size w w' ∧ MapIs w' rb k (.bool false) (memb A) ∧ Got es user ok A := by
  obtain ⟨⟨mb, nm, mv, hg0, hm, hgr⟩, hex, hsz, hus, hlen⟩ := hG
  have HMV := hidMk (And.intro hm hgr)
  have HSZ := hidMk hsz
  clear hm hgr hsz
  have hmm := @run_makeMap Yba.prog
  have q35 : ∀ (w : World) (r : Option Nat), (binOp .neq 35 (.map r) (.map none)).run Yba.prog w = .ok (.bool (!r.isNone)) w := fun w r => run_neq_map_nil w _ _ _ r Yba.underlying35
  obtain ⟨i0, hi, hz0, hz1, hz2⟩ := info_parts info9
  by_cases hok : ok = true
  · subst hok
    obtain ⟨w2, hrun, hM2, hg2⟩ := (MapIs.made w (.bool false)).update Yba.underlying35 (by unfold maxLen; omega) user hus (.bool true)
    have HM2 := hidMk (show MapIs w2 w.heap.size 1 (.bool false) (memb [user]) by
      have := memb_push [] user
      rw [memb_nil] at this
      simp only [List.nil_append] at this
      rw [← this]
      exact hM2)
    have HB2 := hidMk (((Below.refl _ w).alloc (Nat.le_refl _) (.map #[] 0)).grown hg2 (by simp) (fun k hk => by cases hk; exact Nat.le_refl _))
    clear hM2 hg2
    have hex' : ∃ x, w.cell? ⟨gb, 1, none⟩ = some (.map x) ∧ ∀ xb, x = some xb → (Instr.lookup 35 (.map (some xb)) (.string user) false).run Yba.prog w = .ok (.bool true) w := by
      rcases hex with ⟨hx, _⟩ | ⟨xb, nx, roles, hx, hmx, hin⟩
      · exact ⟨none, hx, fun xb h => by cases h⟩
      · refine ⟨some xb, hx, fun y h => ?_⟩
        cases h
        have hlk := hmx.lookup Yba.underlying35 (zeroBool w) user hus
        rw [memb_val, ← hin] at hlk
        exact hlk
    clear hex
    obtain ⟨x, hx, hlk0⟩ := hex'
    have hgbw := lt_of_cell hg0
    have HG0 := hidMk hg0
    rcases x with _ | xb
    rotate_left
    have hlk := hlk0 xb rfl
    rotate_left
    all_goals
      clear hlk0
      go_enter Yba.func21, Yba.ntmps21
      go_wp2_with fail
      go_loopg [6] (2 * (es.length + 1 - 1) + 1) (fun gk todo wr => ∃ A T g cap n, todo = .slice (some ⟨g, 0, none⟩) (List.length T) cap ∧ Below w.heap.size w wr ∧ Hid (Row w.heap.size wr (.slice (some ⟨g, 0, none⟩) (List.length T) cap) T) ∧ Hid (MapIs wr w.heap.size n (.bool false) (memb A)) ∧ n ≤ List.length A ∧ List.length T ≤ List.length A ∧ Hid (Dfs es user A T) ∧ Hid (gk = 2 * (es.length + 1 - List.length A) + List.length T))
      case atStart =>
        refine ⟨[user], [user], w2.heap.size, 1, 1, rfl, HB2.out.alloc HB2.out.size _, ?_, HM2.out.kept (World.grownBy_alloc _ _ none) (by simp), by simp, by simp, Dfs.start es user, by show _ = _; simp⟩
        exact World.ownsRow_lit w2 #[.string user] 1 HB2.out.size (by unfold maxLen; omega) rfl
      case round =>
        obtain ⟨A, T, g, cap, n, rfl, hB, HR, HM, hn, hTA, HD, HK⟩ := hrel
        have hAb := HD.out.found.bound
        by_cases hT : 0 < T.length
        · obtain ⟨T', last, rfl⟩ := snoc_of T hT
          have hcl : wr.cell? ⟨g, T'.length, none⟩ = some (.string last) := HR.out.cell (by simp)
          have hls : last.size ≤ maxLen := by
            rcases List.mem_cons.1 (HD.out.found.sub last (HD.out.tin last (by simp))) with h | h
            · rw [h]; exact hus
            · obtain ⟨e, he, rfl⟩ := List.mem_map.1 h
              exact HSZ.out e he
          have hlk32 := (HMV.out.1.block (hB.block _ HMV.out.1.lt)).lookup Yba.underlying32 (zeroSlice wr) last hls
          have cg0 : wr.cell? ⟨gb, 0, none⟩ = some (.map (some mb)) := by rw [hB.cell hgbw]; exact HG0.out
          have HSA := hidMk ((HMV.out.2 last.data.toList).below hB)
          obtain ⟨a2, cap2, he2, hcs⟩ := HMV.out.2 last.data.toList
          rw [he2] at hlk32
          have HC2 := hidMk hcs
          clear hcs he2
          have hcap : T'.length + 1 ≤ cap := by
            rcases HR.out.2 with ⟨h', _⟩ | ⟨g', cap', cur, h', _, _, hcp, _⟩
            · simp at h'
            · cases h'
              simpa using hcp
          have HP := hidMk (show Row w.heap.size wr (.slice (some ⟨g, 0, none⟩) T'.length cap) T' from own_pop (x := .string last) (by
            have := HR.out
            unfold Row at this
            simpa using this))
          have hgl := groups_length es last.data.toList
          generalize hgr : groups es last.data.toList = gs at hlk32 HC2 hgl
          have HGR := hidMk hgr
          clear hgr HSA
          simp only [List.length_append, List.length_cons, List.length_nil, Nat.zero_add] at hTA ⊢
          have hgk : 2 * (es.length + 1 - A.length) + T'.length < gk := by
            have := HK.out
            simp only [List.length_append, List.length_cons, List.length_nil] at this
            omega
          have HGK := hidMk hgk
          have HDI := hidMk HD.out.pop
          clear hgk HK HD HR hT
          go_wp2_with fail
          go_loopw [6, 51] (fun todo i wr => ∃ m A T g cap n, m ≤ gs.length ∧ i = .int .i64 ((m : Nat) : Int) ∧ todo = .slice (some ⟨g, 0, none⟩) (List.length T) cap ∧ Below w.heap.size w wr ∧ Hid (Row w.heap.size wr (.slice (some ⟨g, 0, none⟩) (List.length T) cap) T) ∧ Hid (MapIs wr w.heap.size n (.bool false) (memb A)) ∧ n ≤ List.length A ∧ List.length T ≤ List.length A ∧ Hid (DfsIn es user last m A T) ∧ Hid (2 * (es.length + 1 - List.length A) + List.length T < gk)) (fun _ i _ => gs.length - (intOf i).toNat)
          case atStart => exact ⟨0, A, T', g, cap, n, Nat.zero_le _, rfl, rfl, hB, HP, HM, hn, by omega, HDI, HGK⟩
          case round =>
            clear hB HM HP HDI HGK hn hTA hAb hcap hcl cg0 hlk32
            obtain ⟨m, A, T, g, cap, n, hm, rfl, rfl, hB, HR, HM, hn, hTA, HD, HK⟩ := hrel
            have hAb := HD.out.found.bound
            by_cases hml : m < gs.length
            · rcases HC2.out with h0 | ⟨b, off, rfl, hcell⟩
              · omega
              have cp := hcell m hml
              rw [← hB.cell (p := ⟨b, off + m, none⟩) (lt_of_cell cp)] at cp
              have hgp : gs[m]? = some (gs.getD m ByteArray.empty) := by rw [List.getD_eq_getElem?_getD, List.getElem?_eq_getElem hml]; rfl
              clear hcell
              generalize gs.getD m ByteArray.empty = p at cp hgp
              have HGP := hidMk (show (groups es last.data.toList)[m]? = some p by rw [HGR.out]; exact hgp)
              clear hgp
              by_cases hp : (p.size : Int) ≤ 63
              · have hlkp := HM.out.lookup Yba.underlying35 (zeroBool wr) p (by unfold maxLen; omega)
                rw [memb_val] at hlkp
                by_cases hin : inL A p = true
                · rw [hin] at hlkp
                  have HIN := hidMk hin
                  clear hin
                  go_wp2_with fail
                  go_roundw
                  case rel => exact ⟨m + 1, A, T, g, cap, n, by omega, by go_num, rfl, hB, HR, HM, hn, hTA, HD.out.skip HGP.out (fun _ => (inL_iff A p).1 HIN.out), HK⟩
                  case measure => simp [intOf]; omega
                · have hin' : inL A p = false := by simpa using hin
                  rw [hin'] at hlkp
                  have HIN := hidMk (show ¬ p ∈ A from fun h => hin ((inL_iff A p).2 h))
                  clear hin hin'
                  have HD2 := hidMk (HD.out.push HGP.out (by omega) HIN.out)
                  have hAb2 := HD2.out.found.bound
                  simp only [List.length_append, List.length_cons, List.length_nil] at hAb2
                  have hsw := hB.size
                  have hne := map_ne_row HM.out HR.out
                  go_wp2_with (first
                    | (at_mapUpdate; refine wpList_store HM.out rfl _ _ _ 35 4 rfl Yba.underlying35 (by unfold maxLen; omega) rfl p (by unfold maxLen; omega) rfl (.bool true) rfl ?_; intro w5 hM5 hg5; have HM5 := hidMk hM5; have HG5 := hidMk hg5; have hs5 := hg5.size; clear hM5 hg5)
                    | (at_builtin; refine wpList_append_own _ rfl _ _ 31 rfl w.heap.size 9 i0 (.string ⟨#[]⟩) 1 16 Yba.underlying31 hi hz0 hz1 hz2 rfl (by decide) (.slice (some ⟨g, 0, none⟩) T.length cap) T.length (T.map Value.string) rfl ((HR.out.kept HG5.out (.inr (by simpa [Value.ownBlock] using fun h => hne h.symm))).alloc _) ⟨w5.heap.size, 0, none⟩ 1 1 [.string p] rfl rfl (cells_new w5 [.string p] 9 _ rfl) (strs_oneCell [p]) (by unfold maxLen; omega) (by omega) (by simp; omega) ?_; intro v6 w6 hown6 hgr6 hnil6))
                  have hrow : Row w.heap.size w6 v6 (T ++ [p]) := by
                    unfold Row
                    simpa using hown6
                  obtain ⟨g6, cap6, rfl⟩ := hrow.shape (by simp)
                  have hM6 : MapIs w6 w.heap.size (n + 1) (.bool false) (memb (A ++ [p])) := by
                    rw [← memb_push]
                    exact (HM5.out.kept (World.grownBy_alloc w5 _ none) (by simp)).kept hgr6 (by simpa [Value.ownBlock] using hne)
                  have hB6 := ((hB.grown HG5.out hsw (fun k hk => by cases hk; exact Nat.le_refl _)).alloc (Nat.le_trans hsw hs5) _).grown hgr6 (by simp; omega) (fun k hk => by cases hk; exact HR.out.ge)
                  have hK := HK.out
                  go_roundw
                  case rel => exact ⟨m + 1, A ++ [p], T ++ [p], g6, cap6, n + 1, by omega, by go_num, rfl, hB6, hrow, hM6, by simp; omega, by simp; omega, HD2, by show _ < _; simp only [List.length_append, List.length_cons, List.length_nil]; omega⟩
                  case measure => simp [intOf]; omega
              · go_wp2_with fail
                go_roundw
                case rel => exact ⟨m + 1, A, T, g, cap, n, by omega, by go_num, rfl, hB, HR, HM, hn, hTA, HD.out.skip HGP.out (fun h => absurd h (by omega)), HK⟩
                case measure => simp [intOf]; omega
            · go_wp2_with fail
              go_roundg (2 * (es.length + 1 - A.length) + T.length)
              case measure => exact HK.out
              case rel => exact ⟨A, T, g, cap, n, rfl, hB, HR, HM, hn, hTA, HD.out.finish (by rw [HGR.out]; omega), rfl⟩
        · go_wp2_with fail
          go_ret
          have : T = [] := List.length_eq_zero_iff.1 (by omega)
          subst this
          exact ⟨_, n, A, rfl, hB, HM.out, HD.out.finish⟩
  · have hok' : ok = false := by simpa using hok
    subst hok'
    rcases hex with ⟨_, h⟩ | ⟨xb, nx, roles, hx, hmx, hin⟩
    · cases h
    have hlk := hmx.lookup Yba.underlying35 (zeroBool w) user hus
    rw [memb_val, ← hin] at hlk
    clear hmx hin
    go_enter Yba.func21, Yba.ntmps21
    go_wp2_with fail
    go_ret
    exact ⟨_, 0, [], rfl, (Below.refl _ w).alloc (Nat.le_refl _) _, by rw [memb_nil]; exact MapIs.made w _, rfl⟩
end Go.Proofs.Ybulkbeuk.Adm
