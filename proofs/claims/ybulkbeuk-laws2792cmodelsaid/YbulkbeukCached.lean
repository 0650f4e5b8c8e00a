/- The walk of LawS2792CCached. -/
import Derived.Test.YbulkbeukUser
namespace Go.Proofs.Ybulkbeuk.Adm
open Go.ChangeShapes Go.WideShapes Go.ChangeAt Go.RowKit Go.Proofs.Ybulkbeuk.MapF
set_option linter.unusedSimpArgs false
set_option linter.unusedVariables false

theorem zeroBool (w : World) : (zeroValue 4).run Yba.prog w = .ok (.bool false) w := by kernel_rfl

theorem kd_one (k : Int) : (kd k == 1) = (k % 5 == 1) := by
  unfold kd
  split
  · rename_i h
    simp at h ⊢
    omega
  split
  · rename_i h
    simp at h ⊢
    omega
  have h1 : (k % 5 == 1) = false := by simpa using ‹¬ (k % 5 == 1) = true›
  rw [h1]
  split
  · rfl
  split <;> rfl
theorem kd_five (k : Int) : (kd k == 5) = (k % 5 == 2) := by
  unfold kd
  split
  · rename_i h
    simp at h ⊢
    omega
  split
  · rename_i h
    simp at h ⊢
    omega
  split
  · rename_i h
    simp at h ⊢
    omega
  have h1 : (k % 5 == 2) = false := by simpa using ‹¬ (k % 5 == 2) = true›
  rw [h1]
  split <;> rfl
theorem kd_zero (k : Int) : (kd k == 0) = (k % 5 == 0) := by
  unfold kd
  split
  · rename_i h
    rw [h]
    rfl
  have h1 : (k % 5 == 0) = false := by simpa using ‹¬ (k % 5 == 0) = true›
  rw [h1]
  split
  · rfl
  split
  · rfl
  split <;> rfl

/-- the plain law: where memberOf is 'a text that is not empty and stands among rs', userAdmits answers as the model does -/
theorem adm_want (user : ByteArray) (rs : List ByteArray) (mem : ByteArray → Bool) (ns : List (Int × ByteArray)) (h : ∀ n ∈ ns, mem n.2 = (!n.2.toList.isEmpty && inL rs n.2)) : adm user mem ns = want user rs ns := by
  unfold adm want
  induction ns with
  | nil => rfl
  | cons x r ih =>
    simp only [List.any_cons]
    rw [ih (fun n hn => h n (List.mem_cons_of_mem _ hn))]
    congr 1
    unfold adm1 want1
    rw [kd_one, kd_five, kd_zero, h x (List.mem_cons_self)]
    cases (x.1 % 5 == 1) <;> cases (x.1 % 5 == 0) <;> cases (x.1 % 5 == 2) <;> simp [Bool.or_comm]

/-- memberOf where the client's roles are known -/
theorem member_cached (cp mb n : Nat) (m : List UInt8 → Value) (f : Bool) (role : ByteArray) (w : World) (hs : role.size ≤ maxLen) (hc : w.cell? ⟨cp, 14, none⟩ = some (.map (some mb))) (hm : MapIs w mb n (.bool false) m) (hf : m role.data.toList = .bool f) :
    Calls Yba.prog 17 #[.pointer (some ⟨cp, 0, none⟩), .string role] w fun e w' => e = .returned (.bool (!role.toList.isEmpty && f)) ∧ w' = w := by
  have hlk := hm.lookup Yba.underlying35 (zeroBool w) role hs
  rw [hf] at hlk
  clear hf
  have q35 : ∀ (w : World) (r : Option Nat), (binOp .eql 35 (.map r) (.map none)).run Yba.prog w = .ok (.bool r.isNone) w := fun w r => run_eql_map_nil w _ _ _ r Yba.underlying35
  by_cases he : role.toList.isEmpty = true
  · go_enter Yba.func17, Yba.ntmps17
    go_wp2_with fail
    go_ret
    exact ⟨by rw [he]; rfl, rfl⟩
  · have he' : role.toList.isEmpty = false := by simpa using he
    clear he
    go_enter Yba.func17, Yba.ntmps17
    go_wp2_with fail
    go_ret
    exact ⟨by rw [he']; rfl, rfl⟩

/-- the texts among the first k -/
def among (rs : List ByteArray) (k : Nat) : List UInt8 → Value := fun l => .bool ((rs.take k).any (fun x => x.data.toList == l))
theorem among_zero (rs : List ByteArray) : among rs 0 = fun _ => .bool false := by
  funext l
  simp [among]
theorem among_succ (rs : List ByteArray) (k : Nat) (h : k < rs.length) : upd (among rs k) (rs.getD k ByteArray.empty).data.toList (.bool true) = among rs (k + 1) := by
  funext l
  unfold upd among
  rw [List.take_succ_eq_append_getElem h, List.any_append, List.getD_eq_getElem?_getD, List.getElem?_eq_getElem h]
  by_cases hl : l = rs[k].data.toList
  · subst hl
    simp
  · have : (rs[k].data.toList == l) = false := by simpa using fun e => hl e.symm
    simp [hl, this]
theorem among_all (rs : List ByteArray) (s : ByteArray) : among rs rs.length s.data.toList = .bool (inL rs s) := by
  unfold among inL same
  rw [List.take_length]
  congr 2
  funext x
  rw [ByteArray.toList_eq, ByteArray.toList_eq]

theorem NamesAt.below {w w' : World} {v : Value} {ns : List (Int × ByteArray)} (h : NamesAt w v ns) (hb : Below w.heap.size w w') : NamesAt w' v ns := by
  obtain ⟨a, cap, rfl, hc, hbd⟩ := h
  refine ⟨a, cap, rfl, ?_, hbd⟩
  rcases hc with h0 | ⟨b, off, rfl, hcell⟩
  · exact .inl h0
  · refine .inr ⟨b, off, rfl, fun i hi => ?_⟩
    obtain ⟨h1, h2⟩ := hcell i hi
    exact ⟨by rw [hb.cell (p := ⟨b, off + i * 2, none⟩) (lt_of_cell h1)]; exact h1, by rw [hb.cell (p := ⟨b, off + i * 2 + 1, none⟩) (lt_of_cell h2)]; exact h2⟩

/-- the cells of the names that were made -/
theorem names_cells {w : World} {base g : Nat} {ns : List (Int × ByteArray)} (h : w.ownsRow base 70 3 (.slice (some ⟨g, 0, none⟩) ns.length ns.length) ns.length (nameCells ns)) (i : Nat) (hi : i < ns.length) :
    w.cell? ⟨g, i * 3, none⟩ = some (.int .i64 (kd (ns.getD i (0, ByteArray.empty)).1)) ∧ w.cell? ⟨g, i * 3 + 1, none⟩ = some (.string (ns.getD i (0, ByteArray.empty)).2) ∧ w.cell? ⟨g, i * 3 + 1 + 1, none⟩ = some (.pointer none) := by
  have key : ∀ (l : List (Int × ByteArray)) (i : Nat), i < l.length → (nameCells l)[i * 3]? = some (.int .i64 (kd (l.getD i (0, ByteArray.empty)).1)) ∧ (nameCells l)[i * 3 + 1]? = some (.string (l.getD i (0, ByteArray.empty)).2) ∧ (nameCells l)[i * 3 + 1 + 1]? = some (.pointer none) := by
    intro l
    induction l with
    | nil => intro i hi; simp at hi
    | cons x r ih =>
      intro i hi
      cases i with
      | zero => simp [nameCells]
      | succ j =>
        have := ih j (by simpa using hi)
        have e : nameCells (x :: r) = [.int .i64 (kd x.1), .string x.2, .pointer none] ++ nameCells r := by simp [nameCells]
        rw [e]
        have e1 : (j + 1) * 3 = 3 + j * 3 := by omega
        simp only [List.getD_cons_succ]
        rw [e1, Nat.add_assoc 3, Nat.add_assoc 3]
        refine ⟨?_, ?_, ?_⟩
        · rw [List.getElem?_append_right (by simp)]; simpa using this.1
        · rw [List.getElem?_append_right (by simp)]; simpa [Nat.add_sub_cancel_left] using this.2.1
        · rw [List.getElem?_append_right (by simp)]; simpa [Nat.add_sub_cancel_left] using this.2.2
  obtain ⟨k1, k2, k3⟩ := key ns i hi
  exact ⟨(h.cellAt _ (by omega)).trans k1, (h.cellAt _ (by omega)).trans k2, (h.cellAt _ (by omega)).trans k3⟩

theorem NamesAt.size {w : World} {v : Value} {ns : List (Int × ByteArray)} (h : NamesAt w v ns) (i : Nat) (hi : i < ns.length) : (ns.getD i (0, ByteArray.empty)).2.size ≤ maxLen := by
  obtain ⟨a, cap, rfl, hc, hbd⟩ := h
  exact (hbd i hi).2

theorem names_at (vn : Value) (ns : List (Int × ByteArray)) (w : World) (hl : ns.length ≤ 256) (hn : NamesAt w vn ns) (g : Nat) (hg : g = w.heap.size) :
    Calls Yba.prog 13 #[vn] w fun e w' => e = .returned (.slice (some ⟨g, 0, none⟩) ns.length ns.length) ∧ Below w.heap.size w w' ∧ w'.ownsRow g 70 3 (.slice (some ⟨g, 0, none⟩) ns.length ns.length) ns.length (nameCells ns) := by
  subst hg
  exact names_any vn ns w hl hn

/-- the client and its alert as they are made -/
theorem two_new5 (wr : World) (user : ByteArray) (v : Value) :
    ((wr.alloc (.cells #[.bool false, .int .u64 0, .int .u64 0, .pointer none, .string ByteArray.empty, .string user, .bool false, .bool false, .bool false] 46)).alloc (.cells #[.nilIface, .pointer none, .pointer none, .int .u64 0, .int .u64 0, .pointer none, .int .u64 0, .int .u64 0, .string user, .bool false, .string ByteArray.empty, .int .i64 0, .bool false, .slice none 0 0, v] 57)).cell? ⟨wr.heap.size, 5, none⟩ = some (.string user) ∧
    ((wr.alloc (.cells #[.bool false, .int .u64 0, .int .u64 0, .pointer none, .string ByteArray.empty, .string user, .bool false, .bool false, .bool false] 46)).alloc (.cells #[.nilIface, .pointer none, .pointer none, .int .u64 0, .int .u64 0, .pointer none, .int .u64 0, .int .u64 0, .string user, .bool false, .string ByteArray.empty, .int .i64 0, .bool false, .slice none 0 0, v] 57)).cell? ⟨wr.heap.size + 1, 14, none⟩ = some v := by
  constructor
  · simp only [World.cell?]
    rw [Below.heap_alloc _ _ _ (by simp), heap_alloc_new]
    rfl
  · have := cells_new (wr.alloc (.cells #[.bool false, .int .u64 0, .int .u64 0, .pointer none, .string ByteArray.empty, .string user, .bool false, .bool false, .bool false] 46)) [.nilIface, .pointer none, .pointer none, .int .u64 0, .int .u64 0, .pointer none, .int .u64 0, .int .u64 0, .string user, .bool false, .string ByteArray.empty, .int .i64 0, .bool false, .slice none 0 0, v] 57 (wr.heap.size + 1) (by simp) 14 v rfl
    exact this

/-- userAdmits' surroundings, where the roles are known -/
theorem cached_env {w5 : World} {base g ab cp mb n : Nat} {ns : List (Int × ByteArray)} {rs : List ByteArray} {user : ByteArray}
    (hown : w5.ownsRow base 70 3 (.slice (some ⟨g, 0, none⟩) ns.length ns.length) ns.length (nameCells ns)) (hu : w5.cell? ⟨ab, 5, none⟩ = some (.string user)) (hc : w5.cell? ⟨cp, 14, none⟩ = some (.map (some mb)))
    (hm : MapIs w5 mb n (.bool false) (among rs rs.length)) (hs : ∀ i, i < ns.length → (ns.getD i (0, ByteArray.empty)).2.size ≤ maxLen) :
    Env (fun x => Below w5.heap.size w5 x) g ab cp ns user (fun role => !role.toList.isEmpty && inL rs role) where
  cell := fun wr hB i hi => by
    obtain ⟨h1, h2, h3⟩ := names_cells hown i hi
    exact ⟨by rw [hB.cell (lt_of_cell h1)]; exact h1, by rw [hB.cell (lt_of_cell h2)]; exact h2, by rw [hB.cell (lt_of_cell h3)]; exact h3⟩
  user := fun wr hB => by rw [hB.cell (lt_of_cell hu)]; exact hu
  alloc := fun wr o hB => hB.alloc hB.size o
  drew := fun wr k hB => ⟨hB.os, hB.tape, hB.output, hB.size, hB.block⟩
  mem := fun wr role hB hsz => (member_cached cp mb n (among rs rs.length) (inL rs role) role wr hsz (by rw [hB.cell (lt_of_cell hc)]; exact hc) (hm.block (hB.block _ hm.lt)) (among_all rs role)).mono (by rintro e w' ⟨rfl, rfl⟩; exact ⟨rfl, hB⟩)
  size := hs
  ltab := fun wr hB => Nat.lt_of_lt_of_le (lt_of_cell hu) hB.size

set_option maxRecDepth 100000 in
set_option maxHeartbeats 1600000 in
theorem cached_walk (vn vr : Value) (ns : List (Int × ByteArray)) (user : ByteArray) (rs : List ByteArray) (w : World) (hn : NamesAt w vn ns) (hr : StrsAt w vr rs) (hrs : ∀ i, i < rs.length → (rs.getD i ByteArray.empty).size ≤ maxLen) :
    Calls Yba.prog 6 #[vn, .string user, vr] w fun e w' => e = .returned (.bool true) ∧ Below w.heap.size w w' := by
  have hmm := @run_makeMap Yba.prog
  obtain ⟨a0, cap0, rfl, hc0⟩ := hn
  obtain ⟨a2, cap2, rfl, hc2⟩ := hr
  have HN : Hid (NamesAt w (.slice a0 ns.length cap0) ns) := ⟨a0, cap0, rfl, hc0⟩
  have HR : Hid (StrsAt w (.slice a2 rs.length cap2) rs) := ⟨a2, cap2, rfl, hc2⟩
  have HC2 := hidMk hc2
  clear hc0 hc2
  by_cases g0 : (256 : Int) < (ns.length : Int)
  · go_enter Yba.func6, Yba.ntmps6
    go_wp2_with fail
    go_ret
    exact ⟨rfl, Below.refl _ _⟩
  by_cases g1 : (256 : Int) < (rs.length : Int)
  · go_enter Yba.func6, Yba.ntmps6
    go_wp2_with fail
    go_ret
    exact ⟨rfl, Below.refl _ _⟩
  go_enter Yba.func6, Yba.ntmps6
  go_wp2_with fail
  go_loopw [9, 24] (fun _ i wr => ∃ k : Nat, k ≤ rs.length ∧ i = .int .i64 (k : Int) ∧ Below w.heap.size w wr ∧ MapIs wr w.heap.size k (.bool false) (among rs k)) (fun _ i _ => rs.length - (intOf i).toNat)
  case atStart => exact ⟨0, Nat.zero_le _, rfl, (Below.refl _ _).alloc (Nat.le_refl _) _, by rw [among_zero]; exact MapIs.made w _⟩
  case round =>
    obtain ⟨k, hk, rfl, hB, hM⟩ := hrel
    by_cases hlt : k < rs.length
    · rcases HC2.out with h0 | ⟨b, off, rfl, hcell⟩
      · omega
      have ck := hcell k hlt
      rw [← hB.cell (p := ⟨b, off + k, none⟩) (lt_of_cell ck)] at ck
      have hks := hrs k hlt
      have HS := hidMk (among_succ rs k hlt)
      clear hcell
      generalize rs.getD k ByteArray.empty = x at ck hks HS
      go_wp2_with (at_mapUpdate; refine wpList_store hM rfl _ _ _ 35 4 rfl Yba.underlying35 (by unfold maxLen; omega) rfl x hks rfl (.bool true) rfl ?_; intro w2 hM2 hg2)
      have hsz := hB.size
      go_roundw
      case rel => exact ⟨k + 1, by omega, by go_num, hB.grown hg2 hB.size (fun j hj => by cases hj; exact Nat.le_refl _), by rw [← HS.out]; exact hM2⟩
      case measure => simp [intOf]; omega
    · go_wp2_with fail
      have hke : k = rs.length := by omega
      subst hke
      have hsz := hB.size
      have HB1 := hidMk (hB.alloc hB.size (.cells #[.bool false, .int .u64 0, .int .u64 0, .pointer none, .string ByteArray.empty, .string user, .bool false, .bool false, .bool false] 46))
      have HB2 := hidMk ((HB1.out).alloc (by simp; omega) (.cells #[.nilIface, .pointer none, .pointer none, .int .u64 0, .int .u64 0, .pointer none, .int .u64 0, .int .u64 0, .string user, .bool false, .string ByteArray.empty, .int .i64 0, .bool false, .slice none 0 0, .map (some w.heap.size)] 57))
      have HNW := hidMk (HN.out.below HB2.out)
      have HU := hidMk (two_new5 wr user (.map (some w.heap.size)))
      have HMW := hidMk ((hM.kept (World.grownBy_alloc wr _ none) (by simp)).kept (World.grownBy_alloc _ _ none) (by simp) : MapIs ((wr.alloc (.cells #[.bool false, .int .u64 0, .int .u64 0, .pointer none, .string ByteArray.empty, .string user, .bool false, .bool false, .bool false] 46)).alloc (.cells #[.nilIface, .pointer none, .pointer none, .int .u64 0, .int .u64 0, .pointer none, .int .u64 0, .int .u64 0, .string user, .bool false, .string ByteArray.empty, .int .i64 0, .bool false, .slice none 0 0, .map (some w.heap.size)] 57)) w.heap.size rs.length (.bool false) (among rs rs.length))
      refine (names_at _ ns _ (by omega) HNW.out (wr.heap.size + 1 + 1) (by simp)).mono ?_
      rintro e w5 ⟨rfl, hB5, hown5⟩
      have HE := hidMk (cached_env (ab := wr.heap.size) (cp := wr.heap.size + 1) (mb := w.heap.size) (n := rs.length) (rs := rs) (user := user) hown5 (by rw [hB5.cell (lt_of_cell HU.out.1)]; exact HU.out.1) (by rw [hB5.cell (lt_of_cell HU.out.2)]; exact HU.out.2) (HMW.out.block (hB5.block _ HMW.out.lt)) HN.out.size)
      have H5 := hidMk hB5
      clear hown5 hB5
      go_wp2_with fail
      refine (admits_any HE.out (by omega) w5 (Below.refl _ _)).mono ?_
      rintro e w6 ⟨rfl, hB6⟩
      have HB6 := hidMk (HB2.out.trans ((H5.out.trans (hB6.mono H5.out.size)).mono HB2.out.size))
      clear hB6
      go_wp2_with fail
      refine (want_any _ _ ns user rs w6 (by omega) (by omega) (HN.out.below HB6.out) (HR.out.below HB6.out)).mono ?_
      rintro e w7 ⟨rfl, hB7⟩
      have HB7 := hidMk (HB6.out.trans (hB7.mono HB6.out.size))
      clear hB7
      go_wp2_with fail
      go_ret
      refine ⟨?_, HB7.out⟩
      rw [adm_want user rs _ ns (fun _ _ => rfl)]
      simp
end Go.Proofs.Ybulkbeuk.Adm
