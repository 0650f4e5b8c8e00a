/- The walk of userAdmits, whatever the client's memberOf answers by. -/
import Derived.Test.YbulkbeukNames
namespace Go.Proofs.Ybulkbeuk.Adm
open Go.ChangeShapes Go.WideShapes Go.ChangeAt Go.RowKit
set_option linter.unusedSimpArgs false
set_option linter.unusedVariables false

def adm1 (user : ByteArray) (mem : ByteArray → Bool) (n : Int × ByteArray) : Bool :=
  (kd n.1 == 1) || ((kd n.1 == 5) && mem n.2) || ((kd n.1 == 0) && same n.2 user)
def adm (user : ByteArray) (mem : ByteArray → Bool) (ns : List (Int × ByteArray)) : Bool := ns.any (adm1 user mem)

theorem adm_drop (user : ByteArray) (mem : ByteArray → Bool) (ns : List (Int × ByteArray)) (k : Nat) (h : k < ns.length) : adm user mem (ns.drop k) = (adm1 user mem (ns.getD k (0, ByteArray.empty)) || adm user mem (ns.drop (k + 1))) := by
  unfold adm
  rw [List.drop_eq_getElem_cons h, List.any_cons, List.getD_eq_getElem?_getD, List.getElem?_eq_getElem h]
  rfl

theorem kd_six (k : Int) : (kd k == 6) = false := by
  unfold kd
  split
  · rfl
  split
  · rfl
  split
  · rfl
  split <;> rfl

/-- what userAdmits asks of the worlds it goes through -/
structure Env (Inv : World → Prop) (g ab cp : Nat) (ns : List (Int × ByteArray)) (user : ByteArray) (mem : ByteArray → Bool) : Prop where
  cell : ∀ wr, Inv wr → ∀ i, i < ns.length → wr.cell? ⟨g, i * 3, none⟩ = some (.int .i64 (kd (ns.getD i (0, ByteArray.empty)).1)) ∧ wr.cell? ⟨g, i * 3 + 1, none⟩ = some (.string (ns.getD i (0, ByteArray.empty)).2) ∧ wr.cell? ⟨g, i * 3 + 1 + 1, none⟩ = some (.pointer none)
  user : ∀ wr, Inv wr → wr.cell? ⟨ab, 5, none⟩ = some (.string user)
  alloc : ∀ wr o, Inv wr → Inv (wr.alloc o)
  drew : ∀ wr n, Inv wr → Inv (wr.drewN n)
  mem : ∀ wr role, Inv wr → role.size ≤ maxLen → Calls Yba.prog 17 #[.pointer (some ⟨cp, 0, none⟩), .string role] wr fun e w' => e = .returned (.bool (mem role)) ∧ Inv w'
  size : ∀ i, i < ns.length → (ns.getD i (0, ByteArray.empty)).2.size ≤ maxLen
  ltab : ∀ wr, Inv wr → ab < wr.heap.size

set_option maxHeartbeats 800000 in
theorem admits_any {Inv : World → Prop} {g ab cp : Nat} {ns : List (Int × ByteArray)} {user : ByteArray} {mem : ByteArray → Bool} (E : Env Inv g ab cp ns user mem) (hl : ns.length ≤ 256) (w : World) (hw : Inv w) :
    Calls Yba.prog 12 #[.slice (some ⟨g, 0, none⟩) ns.length ns.length, .pointer (some ⟨ab, 0, none⟩), .pointer (some ⟨cp, 0, none⟩)] w fun e w' => e = .returned (.bool (adm user mem ns)) ∧ Inv w' := by
  go_enter Yba.func12, Yba.ntmps12
  go_wp2_with fail
  go_loopw [8, 11] (fun _ i wr => ∃ k : Nat, k ≤ ns.length ∧ i = .int .i64 (k : Int) ∧ Inv wr ∧ Hid (adm user mem ns = adm user mem (ns.drop k))) (fun _ i _ => ns.length - (intOf i).toNat)
  case atStart => exact ⟨0, Nat.zero_le _, rfl, hw, by show _ = _; simp⟩
  case round =>
    obtain ⟨k, hk, rfl, hI, HI⟩ := hrel
    by_cases hlt : k < ns.length
    · obtain ⟨ck, ct, cx⟩ := E.cell wr hI k hlt
      have cu := E.user _ hI
      have hab := E.ltab _ hI
      have hsz := E.size k hlt
      have h6 := kd_six (ns.getD k (0, ByteArray.empty)).1
      have HD := hidMk (adm_drop user mem ns k hlt)
      generalize ns.getD k (0, ByteArray.empty) = x at ck ct HD hsz h6
      obtain ⟨x1, x2⟩ := x
      have HU : Hid (adm1 user mem (x1, x2) = ((kd x1 == 1) || ((kd x1 == 5) && mem x2) || ((kd x1 == 0) && same x2 user))) := rfl
      dsimp only at ck ct hsz h6
      generalize kd x1 = kk at ck HU h6
      have HA : ∀ o, Hid (Inv (wr.alloc o)) := fun o => E.alloc wr o hI
      by_cases c1 : (kk == 1) = true
      · go_wp2_with fail
        go_ret
        exact ⟨by rw [HI.out, HD.out, HU.out, c1]; rfl, (HA _).out⟩
      have c1' : (kk == 1) = false := by simpa using c1
      clear c1
      by_cases c5 : (kk == 5) = true
      · have c0' : (kk == 0) = false := by simp at c5 ⊢; omega
        by_cases hm : mem x2 = true
        · go_wp2_with fail
          refine (E.mem _ x2 (HA _).out hsz).mono ?_
          rw [hm]
          rintro e w' ⟨rfl, hI2⟩
          go_wp2_with fail
          go_ret
          exact ⟨by rw [HI.out, HD.out, HU.out, c1', c5, hm]; rfl, hI2⟩
        · have hm' : mem x2 = false := by simpa using hm
          go_wp2_with fail
          refine (E.mem _ x2 (HA _).out hsz).mono ?_
          rw [hm']
          rintro e w' ⟨rfl, hI2⟩
          go_wp2_with fail
          go_roundw
          case rel => exact ⟨k + 1, by omega, by go_num, hI2, by show _ = _; rw [HI.out, HD.out, HU.out, c1', hm', c0']; simp⟩
          case measure => simp [intOf]; omega
      have c5' : (kk == 5) = false := by simpa using c5
      clear c5
      by_cases c0 : (kk == 0) = true
      · by_cases hx : (x2.toList == user.toList) = true
        · go_upto_region 11 with fail
          go_quiet (fail)
          go_wp2_with fail
          go_ret
          exact ⟨by rw [HI.out, HD.out, HU.out, c0, show same x2 user = true from hx]; simp, E.drew _ _ (HA _).out⟩
        · have hx' : (x2.toList == user.toList) = false := by simpa using hx
          clear hx
          go_upto_region 11 with fail
          go_quiet (fail)
          go_wp2_with fail
          go_roundw
          case rel => exact ⟨k + 1, by omega, by go_num, E.drew _ _ (HA _).out, by show _ = _; rw [HI.out, HD.out, HU.out, c1', c5', show same x2 user = false from hx']; simp⟩
          case measure => simp [intOf]; omega
      · have c0' : (kk == 0) = false := by simpa using c0
        clear c0
        go_wp2_with fail
        go_roundw
        case rel => exact ⟨k + 1, by omega, by go_num, (HA _).out, by show _ = _; rw [HI.out, HD.out, HU.out, c1', c5', c0']; simp⟩
        case measure => simp [intOf]; omega
    · go_wp2_with fail
      go_ret
      refine ⟨?_, hI⟩
      rw [HI.out, List.drop_of_length_le (by omega)]
      rfl
end Go.Proofs.Ybulkbeuk.Adm
