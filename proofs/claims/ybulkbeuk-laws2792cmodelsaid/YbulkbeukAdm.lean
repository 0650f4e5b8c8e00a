/- The walks that the two laws on userAdmits share. -/
import Derived.Test.YbulkbeukMapF
import Derived.BigQuiet
import Derived.Deep.QuietTactic
import Derived.Deep.RegionLaw
import Derived.Deep.DeepAppendRoom
import Derived.Deep.DeepCutAuto
namespace Go.Proofs.Ybulkbeuk.Adm
open Go.ChangeShapes Go.WideShapes Go.ChangeAt Go.RowKit
set_option linter.unusedSimpArgs false
set_option linter.unusedVariables false

theorem hidMk {p : Prop} (h : p) : Hid p := h

/-- the kind that zzs2792ckind gives -/
def kd (k : Int) : Int := if (k % 5 == 0) = true then 0 else if (k % 5 == 1) = true then 1 else if (k % 5 == 2) = true then 5 else if (k % 5 == 3) = true then 2 else 4

theorem kind_any (k : Int) (w : World) (h0 : 0 ≤ k) (h1 : k ≤ 255) :
    Calls Yba.prog 19 #[.int .u8 k] w fun e w' => e = .returned (.int .i64 (kd k)) ∧ w' = w := by
  by_cases c0 : (k % 5 == 0) = true
  · have hr : kd k = 0 := by simp only [kd, c0, if_true]
    rw [hr]
    clear hr
    go_enter Yba.func19, Yba.ntmps19
    go_wp2
    go_ret
    exact ⟨rfl, rfl⟩
  have c0' : (k % 5 == 0) = false := by simpa using c0
  clear c0
  by_cases c1 : (k % 5 == 1) = true
  · have hr : kd k = 1 := by simp only [kd, c0', c1, Bool.false_eq_true, if_false, if_true]
    rw [hr]
    clear hr
    go_enter Yba.func19, Yba.ntmps19
    go_wp2
    go_ret
    exact ⟨rfl, rfl⟩
  have c1' : (k % 5 == 1) = false := by simpa using c1
  clear c1
  by_cases c2 : (k % 5 == 2) = true
  · have hr : kd k = 5 := by simp only [kd, c0', c1', c2, Bool.false_eq_true, if_false, if_true]
    rw [hr]
    clear hr
    go_enter Yba.func19, Yba.ntmps19
    go_wp2
    go_ret
    exact ⟨rfl, rfl⟩
  have c2' : (k % 5 == 2) = false := by simpa using c2
  clear c2
  by_cases c3 : (k % 5 == 3) = true
  · have hr : kd k = 2 := by simp only [kd, c0', c1', c2', c3, Bool.false_eq_true, if_false, if_true]
    rw [hr]
    clear hr
    go_enter Yba.func19, Yba.ntmps19
    go_wp2
    go_ret
    exact ⟨rfl, rfl⟩
  have c3' : (k % 5 == 3) = false := by simpa using c3
  clear c3
  have hr : kd k = 4 := by simp only [kd, c0', c1', c2', c3', Bool.false_eq_true, if_false]
  rw [hr]
  clear hr
  go_enter Yba.func19, Yba.ntmps19
  go_wp2
  go_ret
  exact ⟨rfl, rfl⟩

/-- a slice of strings as it lies -/
def StrsAt (w : World) (v : Value) (ss : List ByteArray) : Prop :=
  ∃ a cap, v = .slice a ss.length cap ∧ (ss.length = 0 ∨ ∃ b off, a = some ⟨b, off, none⟩ ∧ ∀ i, i < ss.length → w.cell? ⟨b, off + i, none⟩ = some (.string (ss.getD i ByteArray.empty)))

/-- one text is the other -/
def same (a b : ByteArray) : Bool := a.toList == b.toList
def inL (ss : List ByteArray) (s : ByteArray) : Bool := ss.any (fun x => same x s)

theorem inL_drop (ss : List ByteArray) (s : ByteArray) (k : Nat) (h : k < ss.length) : inL (ss.drop k) s = (same (ss.getD k ByteArray.empty) s || inL (ss.drop (k + 1)) s) := by
  unfold inL
  rw [List.drop_eq_getElem_cons h, List.any_cons, List.getD_eq_getElem?_getD, List.getElem?_eq_getElem h]
  rfl

/-- zzs2792cin -/
theorem cin_any (v : Value) (ss : List ByteArray) (s : ByteArray) (w : World) (hl : ss.length ≤ 100000) (h : StrsAt w v ss) :
    Calls Yba.prog 14 #[v, .string s] w fun e w' => e = .returned (.bool (inL ss s)) ∧ w' = w := by
  obtain ⟨a, cap, rfl, hc⟩ := h
  go_enter Yba.func14, Yba.ntmps14
  go_wp2_with fail
  go_loop [6, 9] (fun _ i => ∃ k : Nat, k ≤ ss.length ∧ i = .int .i64 (k : Int) ∧ Hid (inL ss s = inL (ss.drop k) s)) (fun _ i => ss.length - (intOf i).toNat)
  case atStart => exact ⟨0, Nat.zero_le _, rfl, by show _ = _; simp⟩
  case round =>
    obtain ⟨k, hk, rfl, HI⟩ := hrel
    by_cases hlt : k < ss.length
    · rcases hc with h0 | ⟨b, off, rfl, hcell⟩
      · omega
      have ck := hcell k hlt
      clear hcell
      have HD := hidMk (inL_drop ss s k hlt)
      generalize ss.getD k ByteArray.empty = x at ck HD
      by_cases hx : (x.toList == s.toList) = true
      · go_wp2_with fail
        go_ret
        refine ⟨?_, rfl⟩
        rw [HI.out, HD.out]
        have : same x s = true := hx
        rw [this]
        rfl
      · have hx' : (x.toList == s.toList) = false := by simpa using hx
        clear hx
        go_wp2_with fail
        go_round
        case rel => exact ⟨k + 1, by omega, by go_num, by show _ = _; rw [HI.out, HD.out]; have : same x s = false := hx'; rw [this]; rfl⟩
        case measure => simp [intOf]; omega
    · go_wp2_with fail
      go_ret
      refine ⟨?_, rfl⟩
      rw [HI.out, List.drop_of_length_le (by omega)]
      rfl

theorem lt_of_cell {w : World} {b o : Nat} {v : Value} (h : w.cell? ⟨b, o, none⟩ = some v) : b < w.heap.size := by
  unfold World.cell? at h
  by_cases hb : b < w.heap.size
  · exact hb
  · simp [Array.getElem?_eq_none (Nat.le_of_not_lt hb)] at h

theorem StrsAt.below {w w' : World} {v : Value} {ss : List ByteArray} (h : StrsAt w v ss) (hb : Below w.heap.size w w') : StrsAt w' v ss := by
  obtain ⟨a, cap, rfl, hc⟩ := h
  refine ⟨a, cap, rfl, ?_⟩
  rcases hc with h0 | ⟨b, off, rfl, hcell⟩
  · exact .inl h0
  · refine .inr ⟨b, off, rfl, fun i hi => ?_⟩
    have := hcell i hi
    rw [hb.cell (p := ⟨b, off + i, none⟩) (lt_of_cell this)]
    exact this

/-- a slice of names (kind, text) as it lies -/
def NamesAt (w : World) (v : Value) (ns : List (Int × ByteArray)) : Prop :=
  ∃ a cap, v = .slice a ns.length cap ∧ (ns.length = 0 ∨ ∃ b off, a = some ⟨b, off, none⟩ ∧ ∀ i, i < ns.length → w.cell? ⟨b, off + i * 2, none⟩ = some (.int .u8 (ns.getD i (0, ByteArray.empty)).1) ∧ w.cell? ⟨b, off + i * 2 + 1, none⟩ = some (.string (ns.getD i (0, ByteArray.empty)).2)) ∧
    ∀ i, i < ns.length → (0 ≤ (ns.getD i (0, ByteArray.empty)).1 ∧ (ns.getD i (0, ByteArray.empty)).1 ≤ 255) ∧ (ns.getD i (0, ByteArray.empty)).2.size ≤ maxLen

/-- one name lets the user in -/
def want1 (user : ByteArray) (rs : List ByteArray) (n : Int × ByteArray) : Bool :=
  (n.1 % 5 == 1) || ((n.1 % 5 == 0) && same n.2 user) || ((n.1 % 5 == 2) && (!n.2.toList.isEmpty && inL rs n.2))
def want (user : ByteArray) (rs : List ByteArray) (ns : List (Int × ByteArray)) : Bool := ns.any (want1 user rs)

theorem want_drop (user : ByteArray) (rs : List ByteArray) (ns : List (Int × ByteArray)) (k : Nat) (h : k < ns.length) : want user rs (ns.drop k) = (want1 user rs (ns.getD k (0, ByteArray.empty)) || want user rs (ns.drop (k + 1))) := by
  unfold want
  rw [List.drop_eq_getElem_cons h, List.any_cons, List.getD_eq_getElem?_getD, List.getElem?_eq_getElem h]
  rfl

set_option maxHeartbeats 800000 in
/-- zzs2792cwant -/
theorem want_any (vn vr : Value) (ns : List (Int × ByteArray)) (user : ByteArray) (rs : List ByteArray) (w : World) (hl : ns.length ≤ 100000) (hlr : rs.length ≤ 100000) (hn : NamesAt w vn ns) (hr : StrsAt w vr rs) :
    Calls Yba.prog 15 #[vn, .string user, vr] w fun e w' => e = .returned (.bool (want user rs ns)) ∧ Below w.heap.size w w' := by
  obtain ⟨a, cap, rfl, hc, hbd⟩ := hn
  have HBD := hidMk hbd
  have HC := hidMk hc
  clear hc hbd
  go_enter Yba.func15, Yba.ntmps15
  go_wp2_with fail
  go_loopw [8, 11] (fun _ i wr => ∃ k : Nat, k ≤ ns.length ∧ i = .int .i64 (k : Int) ∧ Below w.heap.size w wr ∧ Hid (want user rs ns = want user rs (ns.drop k))) (fun _ i _ => ns.length - (intOf i).toNat)
  case atStart => exact ⟨0, Nat.zero_le _, rfl, Below.refl _ _, by show _ = _; simp⟩
  case round =>
    obtain ⟨k, hk, rfl, hB, HI⟩ := hrel
    by_cases hlt : k < ns.length
    · rcases HC.out with h0 | ⟨b, off, rfl, hcell⟩
      · omega
      obtain ⟨ck, ct⟩ := hcell k hlt
      rw [← hB.cell (p := ⟨b, off + k * 2, none⟩) (lt_of_cell ck)] at ck
      rw [← hB.cell (p := ⟨b, off + k * 2 + 1, none⟩) (lt_of_cell ct)] at ct
      obtain ⟨⟨hk0, hk1⟩, _⟩ := HBD.out k hlt
      have HD := hidMk (want_drop user rs ns k hlt)
      clear hcell
      generalize ns.getD k (0, ByteArray.empty) = x at ck ct hk0 hk1 HD
      obtain ⟨x1, x2⟩ := x
      have HB2 : ∀ o, Hid (Below w.heap.size w (wr.alloc o)) := fun o => hB.alloc hB.size o
      by_cases c1 : (x1 % 5 == 1) = true
      · go_wp2_with fail
        go_ret
        exact ⟨by rw [HI.out, HD.out, show want1 user rs (x1, x2) = true from by simp only [want1, c1, Bool.true_or, Bool.or_true, Bool.and_self, Bool.true_and, Bool.not_false]]; rfl, (HB2 _).out⟩
      have c1' : (x1 % 5 == 1) = false := by simpa using c1
      clear c1
      by_cases c0 : (x1 % 5 == 0) = true
      · have c2' : (x1 % 5 == 2) = false := by simp at c0 ⊢; omega
        by_cases hx : (x2.toList == user.toList) = true
        · go_wp2_with fail
          go_ret
          exact ⟨by rw [HI.out, HD.out, show want1 user rs (x1, x2) = true from by simp only [want1, c0, same, hx, Bool.true_or, Bool.or_true, Bool.and_self, Bool.true_and, Bool.not_false]]; rfl, (HB2 _).out⟩
        · have hx' : (x2.toList == user.toList) = false := by simpa using hx
          clear hx
          go_wp2_with fail
          go_roundw
          case rel => exact ⟨k + 1, by omega, by go_num, (HB2 _).out, by show _ = _; rw [HI.out, HD.out, show want1 user rs (x1, x2) = false from by simp only [want1, c1', c2', same, hx', Bool.false_and, Bool.and_false, Bool.or_false, Bool.false_or, Bool.true_and, Bool.not_true, Bool.not_false]]; rfl⟩
          case measure => simp [intOf]; omega
      have c0' : (x1 % 5 == 0) = false := by simpa using c0
      clear c0
      by_cases c2 : (x1 % 5 == 2) = true
      · by_cases he : x2.toList.isEmpty = true
        · go_wp2_with fail
          go_roundw
          case rel => exact ⟨k + 1, by omega, by go_num, (HB2 _).out, by show _ = _; rw [HI.out, HD.out, show want1 user rs (x1, x2) = false from by simp only [want1, c1', c0', he, Bool.false_and, Bool.and_false, Bool.or_false, Bool.false_or, Bool.true_and, Bool.not_true, Bool.not_false]]; rfl⟩
          case measure => simp [intOf]; omega
        · have he' : x2.toList.isEmpty = false := by simpa using he
          clear he
          have hr' : StrsAt (wr.alloc (.cells #[.int .u8 x1, .string x2] 74)) vr rs := hr.below (hB.alloc hB.size _)
          by_cases hi : inL rs x2 = true
          · go_wp2_with (go_at_call 14; refine (cin_any vr rs x2 _ hlr hr').mono ?_; rintro e w' ⟨rfl, rfl⟩)
            go_ret
            exact ⟨by rw [HI.out, HD.out, show want1 user rs (x1, x2) = true from by simp only [want1, c2, he', hi, Bool.true_or, Bool.or_true, Bool.and_self, Bool.true_and, Bool.not_false]]; rfl, (HB2 _).out⟩
          · have hi' : inL rs x2 = false := by simpa using hi
            clear hi
            go_wp2_with (go_at_call 14; refine (cin_any vr rs x2 _ hlr hr').mono ?_; rintro e w' ⟨rfl, rfl⟩)
            go_roundw
            case rel => exact ⟨k + 1, by omega, by go_num, (HB2 _).out, by show _ = _; rw [HI.out, HD.out, show want1 user rs (x1, x2) = false from by simp only [want1, c1', c0', hi', Bool.false_and, Bool.and_false, Bool.or_false, Bool.false_or, Bool.true_and, Bool.not_true, Bool.not_false]]; rfl⟩
            case measure => simp [intOf]; omega
      · have c2' : (x1 % 5 == 2) = false := by simpa using c2
        clear c2
        go_wp2_with fail
        go_roundw
        case rel => exact ⟨k + 1, by omega, by go_num, (HB2 _).out, by show _ = _; rw [HI.out, HD.out, show want1 user rs (x1, x2) = false from by simp only [want1, c1', c0', c2', Bool.false_and, Bool.and_false, Bool.or_false, Bool.false_or, Bool.true_and, Bool.not_true, Bool.not_false]]; rfl⟩
        case measure => simp [intOf]; omega
    · go_wp2_with fail
      go_ret
      refine ⟨?_, hB⟩
      rw [HI.out, List.drop_of_length_le (by omega)]
      rfl
end Go.Proofs.Ybulkbeuk.Adm
