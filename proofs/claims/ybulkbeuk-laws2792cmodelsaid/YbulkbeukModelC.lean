/- The walk of LawS2792CModel. -/
import Derived.Test.YbulkbeukGroups
namespace Go.Proofs.Ybulkbeuk.Adm
open Go.ChangeShapes Go.WideShapes Go.ChangeAt Go.RowKit Go.Proofs.Ybulkbeuk.MapF
set_option linter.unusedSimpArgs false
set_option linter.unusedVariables false

theorem Grp.alloc {B mb k : Nat} {w : World} {mv : List UInt8 → Value} {es : List (ByteArray × ByteArray)} (h : Grp B w mb k mv es) (o : Obj) : Grp B (w.alloc o) mb k mv es := h.later ((Below.refl _ w).alloc (Nat.le_refl _) o)
theorem Grp.drew {B mb k : Nat} {w : World} {mv : List UInt8 → Value} {es : List (ByteArray × ByteArray)} (h : Grp B w mb k mv es) : Grp B w.drew mb k mv es := h.later ⟨rfl, rfl, rfl, Nat.le_refl _, fun _ _ => rfl⟩

theorem two_cell (wr : World) (f t : ByteArray) : ((wr.alloc (.cells #[.string f, .string t] 34)).alloc (.cells #[.string t] 9)).drew.cell? ⟨wr.heap.size, 0, none⟩ = some (.string f) := by
  show ((wr.alloc (.cells #[.string f, .string t] 34)).alloc (.cells #[.string t] 9)).cell? ⟨wr.heap.size, 0, none⟩ = some (.string f)
  simp only [World.cell?]
  rw [Below.heap_alloc _ _ _ (by simp), heap_alloc_new]
  rfl
theorem Grp.new_ne {B mb k : Nat} {w : World} {mv : List UInt8 → Value} {es : List (ByteArray × ByteArray)} (h : Grp B w mb k mv es) (l : List UInt8) : some w.heap.size ≠ (mv l).ownBlock := fun e => by
  have := (World.ownsRow.lt (h.row l) _ e.symm).2
  omega

/-- the map of the roles that are there, if it is asked for -/
def Exi (w : World) (useRoles : Bool) (roles : List ByteArray) (x : Option Nat) : Prop := (useRoles = false ∧ x = none) ∨ (useRoles = true ∧ ∃ xb n, x = some xb ∧ MapIs w xb n (.bool false) (memb roles))

/-- userAdmits' surroundings, where the roles are asked of the graph -/
theorem model_env {Wc w5 : World} {base g ab cp gb : Nat} {ns : List (Int × ByteArray)} {es : List (ByteArray × ByteArray)} {user : ByteArray} {ok : Bool} {R : ByteArray → Bool} (hcp : cp = Wc.heap.size) (hR : ∀ A, Got es user ok A → ∀ s, inL A s = R s) (hG : GraphAt Wc gb es user ok)
    (hu : Wc.cell? ⟨ab, 5, none⟩ = some (.string user)) (hg : Wc.heap.size < g)
    (hown : w5.ownsRow base 70 3 (.slice (some ⟨g, 0, none⟩) ns.length ns.length) ns.length (nameCells ns)) (hs : ∀ i, i < ns.length → (ns.getD i (0, ByteArray.empty)).2.size ≤ maxLen) :
    Env (fun x => MInv Wc w5 gb es user ok x) g ab cp ns user (fun role => !role.toList.isEmpty && R role) where
  cell := fun wr hI i hi => by
    obtain ⟨h1, h2, h3⟩ := names_cells hown i hi
    have hb := hI.rest g hg (lt_of_cell h1)
    exact ⟨(World.cell?_of_block (w := w5) (a := ⟨g, i * 3, none⟩) hb).trans h1, (World.cell?_of_block (w := w5) (a := ⟨g, i * 3 + 1, none⟩) hb).trans h2, (World.cell?_of_block (w := w5) (a := ⟨g, i * 3 + 1 + 1, none⟩) hb).trans h3⟩
  user := fun wr hI => by rw [hI.below.cell (lt_of_cell hu)]; exact hu
  alloc := fun wr o hI => hI.later ((Below.refl _ wr).alloc (Nat.le_refl _) o)
  drew := fun wr k hI => hI.later ⟨rfl, rfl, rfl, Nat.le_refl _, fun _ _ => rfl⟩
  mem := fun wr role hI hsz => by subst hcp; exact member_model hR hG wr role hI hsz
  size := hs
  ltab := fun wr hI => Nat.lt_of_lt_of_le (lt_of_cell hu) hI.below.size

/-- the graph as it is made -/
theorem graph_made {wc : World} {mb n : Nat} {x : Option Nat} {mv : List UInt8 → Value} {es : List (ByteArray × ByteArray)} {user : ByteArray} {useRoles : Bool} {roles : List ByteArray} (o : Obj) (hM : MapIs wc mb n (.slice none 0 0) mv) (hS : ∀ l, StrsAt wc (mv l) (groups es l)) (hX : Exi wc useRoles roles x)
    (h1 : ∀ e ∈ es, e.2.size ≤ maxLen) (h2 : user.size ≤ maxLen) (h3 : es.length ≤ 256) :
    GraphAt ((wc.alloc o).alloc (.cells #[.map (some mb), .map x] 50)) (wc.heap.size + 1) es user (!useRoles || inL roles user) := by
  have hb : Below wc.heap.size wc ((wc.alloc o).alloc (.cells #[.map (some mb), .map x] 50)) := ((Below.refl _ wc).alloc (Nat.le_refl _) _).alloc (by simp) _
  have c0 := cells_new (wc.alloc o) [.map (some mb), .map x] 50 (wc.heap.size + 1) (by simp) 0 (.map (some mb)) rfl
  have c1 := cells_new (wc.alloc o) [.map (some mb), .map x] 50 (wc.heap.size + 1) (by simp) 1 (.map x) rfl
  refine ⟨⟨mb, n, mv, c0, hM.block (hb.block _ hM.lt), fun l => (hS l).below hb⟩, ?_, h1, h2, h3⟩
  rcases hX with ⟨rfl, rfl⟩ | ⟨rfl, xb, k, rfl, hm⟩
  · exact .inl ⟨c1, rfl⟩
  · exact .inr ⟨xb, k, roles, c1, hm.block (hb.block _ hm.lt), by simp⟩

/-- the client as it is made: nothing is asked yet -/
theorem minv_made {Wc w5 : World} {gb : Nat} {es : List (ByteArray × ByteArray)} {user : ByteArray} {ok : Bool} (hb : Below (Wc.alloc (.cells (clientCells user gb none) 57)).heap.size (Wc.alloc (.cells (clientCells user gb none) 57)) w5) : MInv Wc w5 gb es user ok w5 := by
  have hlt : Wc.heap.size < w5.heap.size := by
    have := hb.size
    simp at this
    omega
  refine ⟨((Below.refl _ Wc).alloc (Nat.le_refl _) _).trans (hb.mono (by simp)), Nat.le_refl _, hlt, fun _ _ _ => rfl, none, ?_, .inl rfl⟩
  rw [hb.block _ (by simp), heap_alloc_new]

set_option maxRecDepth 100000 in
set_option maxHeartbeats 3200000 in
theorem modelc_walk (vn ve vr : Value) (ns : List (Int × ByteArray)) (user : ByteArray) (es : List (ByteArray × ByteArray)) (useRoles : Bool) (roles : List ByteArray) (w : World) (hn : NamesAt w vn ns) (he : EdgesAt w ve es) (hr : StrsAt w vr roles) (hrs : ∀ i, i < roles.length → (roles.getD i ByteArray.empty).size ≤ maxLen) (hus : user.size ≤ maxLen) :
    Calls Yba.prog 5 #[vn, .string user, ve, .bool useRoles, vr] w fun e w' => e = .returned (.bool true) ∧ Below w.heap.size w w' := by
  have hmm := @run_makeMap Yba.prog
  have HN := hidMk hn
  have HR := hidMk hr
  have HE := hidMk he
  obtain ⟨a0, cap0, rfl, hc0⟩ := hn
  obtain ⟨a2, cap2, rfl, hc2, hes⟩ := he
  obtain ⟨a4, cap4, rfl, hc4⟩ := hr
  have HC2 := hidMk hc2
  have HES := hidMk hes
  have HC4 := hidMk hc4
  have HRS := hidMk hrs
  clear hc0 hc2 hc4 hes hrs
  by_cases g0 : (256 : Int) < (ns.length : Int)
  · go_enter Yba.func5, Yba.ntmps5
    go_wp2_with fail
    go_ret
    exact ⟨rfl, Below.refl _ _⟩
  by_cases g1 : (256 : Int) < (es.length : Int)
  · go_enter Yba.func5, Yba.ntmps5
    go_wp2_with fail
    go_ret
    exact ⟨rfl, Below.refl _ _⟩
  by_cases g2 : (256 : Int) < (roles.length : Int)
  · go_enter Yba.func5, Yba.ntmps5
    go_wp2_with fail
    go_ret
    exact ⟨rfl, Below.refl _ _⟩
  go_enter Yba.func5, Yba.ntmps5
  go_wp2_with fail
  go_loopw [41] (fun i wr => ∃ k mv, k ≤ es.length ∧ i = .int .i64 ((k : Nat) : Int) ∧ Below w.heap.size w wr ∧ Hid (Grp w.heap.size wr w.heap.size k mv es)) (fun i _ => es.length - (intOf i).toNat)
  case atStart => exact ⟨0, _, Nat.zero_le _, rfl, (Below.refl _ _).alloc (Nat.le_refl _) _, Grp.made w es⟩
  case round =>
    obtain ⟨k, mv, hk, rfl, hB, HG⟩ := hrel
    by_cases hlt : k < es.length
    · rcases HC2.out with h0 | ⟨b, off, rfl, hcell⟩
      · omega
      obtain ⟨c1, c2⟩ := hcell k hlt
      rw [← hB.cell (p := ⟨b, off + k * 2, none⟩) (lt_of_cell c1)] at c1
      rw [← hB.cell (p := ⟨b, off + k * 2 + 1, none⟩) (lt_of_cell c2)] at c2
      obtain ⟨hs1, hs2⟩ := HES.out k hlt
      have hgl : (groups (es.take k) (edge es k).1.data.toList).length ≤ 1000 := by
        have := groups_length (es.take k) (edge es k).1.data.toList
        rw [List.length_take] at this
        omega
      have HST := hidMk (fun w1 w2 w3 v' (h : Grp w.heap.size w1 w.heap.size k mv es) => Grp.step (v' := v') (w2 := w2) (w3 := w3) hlt h)
      clear hcell
      generalize edge es k = ed at c1 c2 hs1 hs2 hgl HST
      obtain ⟨ef, et⟩ := ed
      dsimp only at c1 c2 hs1 hs2 hgl HST
      have hsw := hB.size
      go_upto_region 7 with fail
      have HG1 := hidMk (fun o => (HG.out.alloc o).drew)
      have HG2 := hidMk (fun o o' => ((HG.out.alloc o).alloc o').drew)
      have HG3 := hidMk (HG2.out (.cells #[.string ef, .string et] 34) (.cells #[.string et] 9))
      have hlkA := (HG1.out (.cells #[.string ef, .string et] 34)).map.lookup Yba.underlying32 (zeroSlice _) ef hs1
      have hlkB := (HG2.out (.cells #[.string ef, .string et] 34) (.cells #[.string et] 9)).map.lookup Yba.underlying32 (zeroSlice _) ef hs1
      go_region_law (refine step_append (HG3.out.row ef.data.toList) rfl (.tmp 51) (.tmp 54) rfl (by simp [Act.eval, Act.put]) ⟨wr.heap.size + 1, 0, none⟩ et (by simp [Act.eval, Act.put]) (cells_new (wr.alloc (.cells #[.string ef, .string et] 34)) [.string et] 9 _ (by simp)) hgl (by simp; omega) ?_; intro v6 w6 hrow6 hgr6 hat6; have ce6 : w6.cell? ⟨wr.heap.size, 0, none⟩ = some (.string ef) := hgr6.cell (two_cell wr ef et) (HG.out.new_ne _); obtain ⟨w7, hrun7, hM7, hg7⟩ := (HG3.out.map.kept hgr6 (row_ne_map HG3.out.map (HG3.out.row ef.data.toList))).update Yba.underlying32 (by unfold maxLen; omega) ef hs1 v6; have HV6 := hidMk (And.intro hrow6 (And.intro hgr6 hat6)); have HM7 := hidMk (And.intro hM7 hg7); clear hrow6 hgr6 hat6 hM7 hg7)
      all_goals
        go_wp2_with fail
        go_roundw
        case rel =>
          have hg6 := HV6.out.2.1
          refine ⟨k + 1, _, by omega, by go_num, ?_, HST.out _ _ _ _ HG3.out HV6.out.1 hg6 HV6.out.2.2 HM7.out.1 HM7.out.2⟩
          refine (((((hB.alloc hsw _).alloc ?_ _).drew).grown hg6 ?_ ?_).grown HM7.out.2 ?_ ?_)
          · simp; omega
          · simp; omega
          · exact fun j hj => (World.ownsRow.lt (HG.out.row ef.data.toList) j hj).1
          · have := hg6.size
            simp at this
            omega
          · exact fun j hj => by cases hj; exact Nat.le_refl _
        case measure => simp [intOf]; omega
    · have hke : k = es.length := by omega
      subst hke
      have hGrp : Grp w.heap.size wr w.heap.size es.length mv es := HG.out
      have HB := hidMk hB
      have hbs := hB.size
      clear hB HG
      generalize hw1 : wr = w1 at *
      clear hw1
      go_upto_if 57 with fail
      go_cut [14] from 58 (fun s14 wc => ∃ x, s14 = .map x ∧ Below w1.heap.size w1 wc ∧ Hid (Exi wc useRoles roles x))
      case first =>
        cases useRoles with
        | false =>
          go_wp2_with fail
          go_meet
          case rel => exact ⟨none, rfl, Below.refl _ _, .inl ⟨rfl, rfl⟩⟩
        | true =>
          go_wp2_with fail
          go_loopw [61] (fun i wr => ∃ k : Nat, k ≤ roles.length ∧ i = .int .i64 (k : Int) ∧ Below w1.heap.size w1 wr ∧ Hid (MapIs wr w1.heap.size k (.bool false) (memb (roles.take k)))) (fun i _ => roles.length - (intOf i).toNat)
          case atStart => exact ⟨0, Nat.zero_le _, rfl, (Below.refl _ _).alloc (Nat.le_refl _) _, by show MapIs _ _ _ _ _; rw [List.take_zero, memb_nil]; exact MapIs.made w1 _⟩
          case round =>
            obtain ⟨k, hk, rfl, hB, HM⟩ := hrel
            by_cases hlt : k < roles.length
            · rcases HC4.out with h0 | ⟨b, off, rfl, hcell⟩
              · omega
              have ck := hcell k hlt
              rw [← HB.out.cell (p := ⟨b, off + k, none⟩) (lt_of_cell ck)] at ck
              rw [← hB.cell (p := ⟨b, off + k, none⟩) (lt_of_cell ck)] at ck
              have hks := HRS.out k hlt
              have HT := hidMk (show memb (roles.take k ++ [roles.getD k ByteArray.empty]) = memb (roles.take (k + 1)) by
                rw [List.take_succ_eq_append_getElem hlt, List.getD_eq_getElem?_getD, List.getElem?_eq_getElem hlt]
                rfl)
              clear hcell
              generalize roles.getD k ByteArray.empty = x at ck hks HT
              go_wp2_with (at_mapUpdate; refine wpList_store HM.out rfl _ _ _ 35 4 rfl Yba.underlying35 (by unfold maxLen; omega) rfl x hks rfl (.bool true) rfl ?_; intro w3 hM3 hg3)
              have hsz := hB.size
              go_roundw
              case rel => exact ⟨k + 1, by omega, by go_num, hB.grown hg3 hB.size (fun j hj => by cases hj; exact Nat.le_refl _), by show MapIs _ _ _ _ _; rw [← HT.out, ← memb_push]; exact hM3⟩
              case measure => simp [intOf]; omega
            · go_wp2_with fail
              go_meet
              case rel => exact ⟨_, rfl, hB, .inr ⟨rfl, _, k, rfl, by have := HM.out; rwa [List.take_of_length_le (by omega)] at this⟩⟩
      case rest =>
        obtain ⟨x, rfl, hBc, HX⟩ := hcut
        have hbc := hBc.size
        obtain ⟨R, hRf⟩ := got_fun es user (!useRoles || inL roles user)
        have HRF := hidMk hRf
        have HGA := hidMk (graph_made (.cells #[.bool false, .int .u64 0, .int .u64 0, .pointer none, .string ByteArray.empty, .string user, .bool false, .bool false, .bool false] 46) (hGrp.map.block (hBc.block _ hGrp.map.lt)) (fun l => by have := (hGrp.row l).strs; rw [List.take_length] at this; exact this.below hBc) HX.out (fun e hm => by obtain ⟨i, hi, rfl⟩ := List.getElem_of_mem hm; have := (HES.out i hi).2; rwa [edge, List.getD_eq_getElem?_getD, List.getElem?_eq_getElem hi] at this) hus (by omega))
        have HBW := hidMk (HB.out.trans (hBc.mono hbs))
        have HB1 := hidMk (((HBW.out.alloc HBW.out.size (.cells #[.bool false, .int .u64 0, .int .u64 0, .pointer none, .string ByteArray.empty, .string user, .bool false, .bool false, .bool false] 46)).alloc (by simp; omega) (.cells #[.map (some w.heap.size), .map x] 50)))
        have HB2 := hidMk (HB1.out.alloc (by simp; omega) (.cells (clientCells user (wc.heap.size + 1) none) 57))
        have HNW := hidMk (HN.out.below HB2.out)
        have HU := hidMk (show ((wc.alloc (.cells #[.bool false, .int .u64 0, .int .u64 0, .pointer none, .string ByteArray.empty, .string user, .bool false, .bool false, .bool false] 46)).alloc (.cells #[.map (some w.heap.size), .map x] 50)).cell? ⟨wc.heap.size, 5, none⟩ = some (.string user) by
          simp only [World.cell?]
          rw [Below.heap_alloc _ _ _ (by simp), heap_alloc_new]
          rfl)
        clear hRf hGrp hBc HX
        go_wp2_with fail
        refine (names_at _ ns _ (by omega) HNW.out (wc.heap.size + 1 + 1 + 1) (by simp)).mono ?_
        rintro e w5 ⟨rfl, hB5, hown5⟩
        have HENV := hidMk (model_env (cp := wc.heap.size + 1 + 1) (by simp) HRF.out HGA.out HU.out (by simp) hown5 HN.out.size)
        have HMI := hidMk (minv_made (es := es) (ok := !useRoles || inL roles user) hB5)
        clear hB5 hown5
        go_wp2_with fail
        refine (admits_any HENV.out (by omega) w5 HMI.out).mono ?_
        rintro e w6 ⟨rfl, hI6⟩
        have HB6 := hidMk (HB1.out.trans (hI6.below.mono HB1.out.size))
        have hb6 := HB6.out.size
        clear hI6
        generalize hgot : adm user (fun role => !role.toList.isEmpty && R role) ns = got
        have HGOT := hidMk hgot
        clear hgot HENV HMI HGA HU HNW HB1 HB2 HBW hbs hbc
        have HN6 := hidMk (HN.out.below HB6.out)
        have HR6 := hidMk (HR.out.below HB6.out)
        have HC6 := hidMk (show es.length = 0 ∨ ∃ b off, a2 = some ⟨b, off, none⟩ ∧ ∀ i, i < es.length → w6.cell? ⟨b, off + i * 2, none⟩ = some (.string (edge es i).1) ∧ w6.cell? ⟨b, off + i * 2 + 1, none⟩ = some (.string (edge es i).2) by
          rcases HC2.out with h | ⟨b, off, rfl, hc⟩
          · exact .inl h
          · refine .inr ⟨b, off, rfl, fun i hi => ?_⟩
            obtain ⟨h1, h2⟩ := hc i hi
            exact ⟨by rw [HB6.out.cell (p := ⟨b, off + i * 2, none⟩) (lt_of_cell h1)]; exact h1, by rw [HB6.out.cell (p := ⟨b, off + i * 2 + 1, none⟩) (lt_of_cell h2)]; exact h2⟩)
        generalize hok : (!useRoles || inL roles user) = ok at HRF
        have HOK := hidMk hok
        clear hok
        go_upto_region 21 with fail
        go_cut [89] from 84 (fun s89 wd => s89 = .bool ok ∧ wd = w6)
        case first =>
          cases useRoles with
          | false =>
            go_wp2_with fail
            go_meet
            case rel => exact ⟨by rw [← HOK.out]; rfl, rfl⟩
          | true =>
            by_cases hin : inL roles user = true
            · go_wp2_with (go_at_call 14; refine (cin_any _ roles user w6 (by omega) HR6.out).mono ?_; rw [hin]; rintro e w' ⟨rfl, rfl⟩)
              go_meet
              case rel => exact ⟨by rw [← HOK.out, hin]; rfl, rfl⟩
            · have hin' : inL roles user = false := by simpa using hin
              clear hin
              go_wp2_with (go_at_call 14; refine (cin_any _ roles user w6 (by omega) HR6.out).mono ?_; rw [hin']; rintro e w' ⟨rfl, rfl⟩)
              go_meet
              case rel => exact ⟨by rw [← HOK.out, hin']; rfl, rfl⟩
        case rest =>
          obtain ⟨rfl, hw⟩ := hcut
          rw [hw]
          clear hw
          obtain ⟨i0, hi, hz0, hz1, hz2⟩ := info_parts info9
          go_upto_if 89 with fail
          go_cut [20] from 90 (fun v wd => ∃ rs, Below w6.heap.size w6 wd ∧ Hid (Row w6.heap.size wd v rs ∧ Got es user ok rs) ∧ List.length rs ≤ 1000)
          case first =>
            cases ok with
            | false =>
              go_wp2_with fail
              go_meet
              case rel => exact ⟨[], Below.refl _ _, ⟨World.ownsRow_nil _ _ _ _, rfl⟩, by simp⟩
            | true =>
              go_wp2_with fail
              go_loopw [20, 21] (fun v i wr => ∃ r rs, i = .int .i64 ((r : Nat) : Int) ∧ Below w6.heap.size w6 wr ∧ Hid (Row w6.heap.size wr v rs) ∧ Hid (Fix es user r 0 false rs)) (fun _ i _ => es.length + 1 - (intOf i).toNat)
              case atStart => exact ⟨0, [user], rfl, (Below.refl _ _).alloc (Nat.le_refl _) _, World.ownsRow_lit w6 #[.string user] 1 (Nat.le_refl _) (by unfold maxLen; omega) rfl, Fix.start es user⟩
              case round =>
                obtain ⟨r, rs, rfl, hB, HRow, HF⟩ := hrel
                have hrr := HF.out.rounds
                go_wp2_with fail
                go_loopw [20, 22, 100] (fun v ch i wr => ∃ k c rs, k ≤ es.length ∧ i = .int .i64 ((k : Nat) : Int) ∧ ch = .bool c ∧ Below w6.heap.size w6 wr ∧ Hid (Row w6.heap.size wr v rs) ∧ Hid (Fix es user r k c rs)) (fun _ _ i _ => es.length - (intOf i).toNat)
                case atStart => exact ⟨0, false, rs, Nat.zero_le _, rfl, rfl, hB, HRow, HF⟩
                case round =>
                  clear hB HRow HF
                  obtain ⟨k, c, rs, hk, rfl, rfl, hB, HRow, HF⟩ := hrel
                  have hrb := HF.out.found.bound
                  by_cases hlt : k < es.length
                  · rcases HC6.out with h0 | ⟨b, off, rfl, hcell⟩
                    · omega
                    obtain ⟨c1, c2⟩ := hcell k hlt
                    rw [← hB.cell (p := ⟨b, off + k * 2, none⟩) (lt_of_cell c1)] at c1
                    rw [← hB.cell (p := ⟨b, off + k * 2 + 1, none⟩) (lt_of_cell c2)] at c2
                    have HED := hidMk (edge_some hlt)
                    clear hcell
                    generalize edge es k = ed at c1 c2 HED
                    obtain ⟨ef, et⟩ := ed
                    dsimp only at c1 c2
                    have HSA := hidMk (fun o => (HRow.out.strs).below ((Below.refl _ wr).alloc (Nat.le_refl _) o))
                    have hsw := hB.size
                    by_cases h1 : inL rs ef = true
                    · by_cases h2 : (et.size : Int) ≤ 63
                      · by_cases h3 : inL rs et = true
                        · have HF2 := hidMk (HF.out.skip HED.out (fun _ _ => (inL_iff rs et).1 h3))
                          go_wp2_with (go_at_call 14; refine (cin_any _ rs _ _ (by omega) (HSA.out _)).mono ?_; rintro e w' ⟨rfl, rfl⟩)
                          go_roundw
                          case rel => exact ⟨k + 1, c, rs, by omega, by go_num, rfl, hB.alloc hsw _, HRow.out.alloc _, HF2⟩
                          case measure => simp [intOf]; omega
                        · have h3' : inL rs et = false := by simpa using h3
                          have HF2 := hidMk (HF.out.push HED.out ((inL_iff rs ef).1 h1) (by show et.size ≤ 63; omega) (fun h => h3 ((inL_iff rs et).2 h)))
                          clear h3
                          go_wp2_with (first
                            | (go_at_call 14; refine (cin_any _ rs _ _ (by omega) (HSA.out _)).mono ?_; rintro e w' ⟨rfl, rfl⟩)
                            | (at_builtin; refine wpList_append_own _ rfl _ _ 31 rfl w6.heap.size 9 i0 (.string ⟨#[]⟩) 1 16 Yba.underlying31 hi hz0 hz1 hz2 rfl (by decide) _ rs.length (rs.map Value.string) rfl ((HRow.out.alloc _).alloc _) ⟨wr.heap.size + 1, 0, none⟩ 1 1 [.string et] rfl rfl (cells_new (wr.alloc _) [.string et] 9 _ (by simp)) (strs_oneCell [et]) (by unfold maxLen; omega) (by omega) (by simp; omega) ?_; intro v7 w7 hown7 hgr7 hnil7; have H7 := hidMk (And.intro (show Row w6.heap.size w7 v7 (rs ++ [et]) by unfold Row; simpa using hown7) hgr7); clear hown7 hgr7 hnil7))
                          go_roundw
                          case rel => exact ⟨k + 1, true, rs ++ [et], by omega, by go_num, rfl, ((hB.alloc hsw _).alloc (by simp; omega) _).grown H7.out.2 (by simp; omega) (fun j hj => (World.ownsRow.lt HRow.out j hj).1), H7.out.1, HF2⟩
                          case measure => simp [intOf]; omega
                      · have HF2 := hidMk (HF.out.skip HED.out (fun _ h => absurd h (by show ¬ et.size ≤ 63; omega)))
                        go_wp2_with (go_at_call 14; refine (cin_any _ rs _ _ (by omega) (HSA.out _)).mono ?_; rintro e w' ⟨rfl, rfl⟩)
                        go_roundw
                        case rel => exact ⟨k + 1, c, rs, by omega, by go_num, rfl, hB.alloc hsw _, HRow.out.alloc _, HF2⟩
                        case measure => simp [intOf]; omega
                    · have h1' : inL rs ef = false := by simpa using h1
                      have HF2 := hidMk (HF.out.skip HED.out (fun h => absurd ((inL_iff rs ef).2 h) h1))
                      clear h1
                      go_wp2_with (go_at_call 14; refine (cin_any _ rs _ _ (by omega) (HSA.out _)).mono ?_; rintro e w' ⟨rfl, rfl⟩)
                      go_roundw
                      case rel => exact ⟨k + 1, c, rs, by omega, by go_num, rfl, hB.alloc hsw _, HRow.out.alloc _, HF2⟩
                      case measure => simp [intOf]; omega
                  · have hke : k = es.length := by omega
                    cases c with
                    | false =>
                      have HGT := hidMk (show Got es user true rs from fun s => HF.out.finish (by omega) s)
                      go_wp2_with fail
                      go_meet
                      case rel => exact ⟨rs, hB, ⟨HRow.out, HGT.out⟩, by omega⟩
                    | true =>
                      go_wp2_with fail
                      go_roundw
                      case rel => exact ⟨r + 1, rs, by go_num, hB, HRow, HF.out.again⟩
                      case measure => simp [intOf]; omega
          case rest =>
            obtain ⟨rs, hBd, HR2, hrl⟩ := hcut
            have HBd := hidMk hBd
            go_wp2_with fail
            refine (want_any _ _ ns user rs _ (by omega) (by omega) (HN6.out.below HBd.out) HR2.out.1.strs).mono ?_
            rintro e w9 ⟨rfl, hB9⟩
            have HB9 := hidMk (HB6.out.trans ((HBd.out.trans (hB9.mono HBd.out.size)).mono HB6.out.size))
            clear hB9
            go_wp2_with fail
            go_ret
            refine ⟨?_, HB9.out⟩
            rw [← HGOT.out, adm_want user rs _ ns (fun n _ => by rw [HRF.out rs HR2.out.2])]
            simp
end Go.Proofs.Ybulkbeuk.Adm
