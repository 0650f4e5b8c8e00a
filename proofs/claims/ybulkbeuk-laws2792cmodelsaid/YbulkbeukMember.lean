/- The walk of memberOf where the roles are asked of the graph once. -/
import Derived.Test.YbulkbeukRoles
namespace Go.Proofs.Ybulkbeuk.Adm
open Go.ChangeShapes Go.WideShapes Go.ChangeAt Go.RowKit Go.Proofs.Ybulkbeuk.MapF
set_option linter.unusedSimpArgs false
set_option linter.unusedVariables false

theorem GraphAt.below {w w' : World} {gb : Nat} {es : List (ByteArray × ByteArray)} {user : ByteArray} {ok : Bool} (h : GraphAt w gb es user ok) (hb : Below w.heap.size w w') : GraphAt w' gb es user ok := by
  obtain ⟨⟨mb, n, mv, h1, h2, h3⟩, hx, h4, h5, h6⟩ := h
  refine ⟨⟨mb, n, mv, by rw [hb.cell (lt_of_cell h1)]; exact h1, h2.block (hb.block _ h2.lt), fun l => (h3 l).below hb⟩, ?_, h4, h5, h6⟩
  rcases hx with ⟨a, b⟩ | ⟨xb, k, roles, a, b, c⟩
  · exact .inl ⟨by rw [hb.cell (lt_of_cell a)]; exact a, b⟩
  · exact .inr ⟨xb, k, roles, by rw [hb.cell (lt_of_cell a)]; exact a, b.block (hb.block _ b.lt), c⟩
theorem GraphAt.drew {w : World} {gb : Nat} {es : List (ByteArray × ByteArray)} {user : ByteArray} {ok : Bool} (h : GraphAt w gb es user ok) : GraphAt w.drew gb es user ok :=
  h.below ⟨rfl, rfl, rfl, Nat.le_refl _, fun _ _ => rfl⟩

/-- whatever finds the roles finds the same -/
theorem got_fun (es : List (ByteArray × ByteArray)) (user : ByteArray) (ok : Bool) : ∃ R : ByteArray → Bool, ∀ A, Got es user ok A → ∀ s, inL A s = R s := by
  classical
  refine ⟨fun s => decide (ok = true ∧ Reach es user s), fun A h s => ?_⟩
  unfold Got at h
  cases ok with
  | true =>
    simp only [if_true] at h
    have := (inL_iff A s).trans (h s)
    by_cases hr : Reach es user s
    · simp [hr, this.2 hr]
    · have hf : inL A s = false := by
        cases hb : inL A s with
        | true => exact absurd (this.1 hb) hr
        | false => rfl
      simp [hr, hf]
  | false =>
    simp only [Bool.false_eq_true, if_false] at h
    subst h
    simp [inL]

/-- the client's cells -/
def clientCells (user : ByteArray) (gb : Nat) (r : Option Nat) : Array Value := #[.nilIface, .pointer none, .pointer (some ⟨gb, 0, none⟩), .int .u64 0, .int .u64 0, .pointer none, .int .u64 0, .int .u64 0, .string user, .bool false, .string ByteArray.empty, .int .i64 0, .bool false, .slice none 0 0, .map r]

/-- the worlds that userAdmits goes through: Wc: ahead of the client, which lies at its end; W5: behind the names -/
structure MInv (Wc W5 : World) (gb : Nat) (es : List (ByteArray × ByteArray)) (user : ByteArray) (ok : Bool) (x : World) : Prop where
  below : Below Wc.heap.size Wc x
  size : W5.heap.size ≤ x.heap.size
  lt : Wc.heap.size < W5.heap.size
  rest : ∀ k, Wc.heap.size < k → k < W5.heap.size → x.heap[k]? = W5.heap[k]?
  client : ∃ r, x.heap[Wc.heap.size]? = some (.cells (clientCells user gb r) 57 (0, 0)) ∧ (r = none ∨ ∃ rb k A, r = some rb ∧ MapIs x rb k (.bool false) (memb A) ∧ Got es user ok A)

theorem MInv.later {Wc W5 : World} {gb : Nat} {es : List (ByteArray × ByteArray)} {user : ByteArray} {ok : Bool} {x x' : World} (h : MInv Wc W5 gb es user ok x) (hb : Below x.heap.size x x') : MInv Wc W5 gb es user ok x' := by
  obtain ⟨h1, h2, h3, h4, r, h5, h6⟩ := h
  refine ⟨h1.trans (hb.mono h1.size), Nat.le_trans h2 hb.size, h3, fun k hk hk2 => ?_, r, ?_, ?_⟩
  · rw [hb.block k (by omega)]; exact h4 k hk hk2
  · rw [hb.block _ (by omega)]; exact h5
  · rcases h6 with h | ⟨rb, k, A, a, b, c⟩
    · exact .inl h
    · exact .inr ⟨rb, k, A, a, b.block (hb.block _ b.lt), c⟩

/-- the call of rolesOf inside a region that draws -/
theorem step_roles {ops : Array Oper} {o : Oper} {a : Act} {w : World} {K : Act → World → Prop} {Q : Exit → Act → World → Prop} {E : Prop} (hg : o.guard = none) (x y : Operand)
    (hop : o.op = Op.call { callee := .value (.func 21), args := #[x, y], argTypes := #[48, 9] }) (gb : Nat) (es : List (ByteArray × ByteArray)) (user : ByteArray) (ok : Bool) (hx : a.eval x = .pointer (some ⟨gb, 0, none⟩)) (hy : a.eval y = .string user) (hG : GraphAt w gb es user ok)
    (hK : ∀ rb k A w', Below w.heap.size w w' → MapIs w' rb k (.bool false) (memb A) → Got es user ok A → K (a.put o.dst (.map (some rb))) w') : if Region.wanted o (yielded ops a.tmps) = true then Oper.wp Yba.prog o a w K Q else E := by
  have hw : Region.wanted o (yielded ops a.tmps) = true := by simp [Region.wanted, hg]
  rw [if_pos hw]
  have hc : (callFunc 21 #[.pointer (some ⟨gb, 0, none⟩), .string user]).run Yba.prog w = .ok (.enter 21 #[.pointer (some ⟨gb, 0, none⟩), .string user]) w := by kernel_rfl
  have hr : (execOp a.eval o).run Yba.prog w = .ok (.enter 21 #[.pointer (some ⟨gb, 0, none⟩), .string user]) w := by
    have he : a.eval (.func 21) = .func (.func 21) #[] #[] := rfl
    simp [execOp, hop, resolve, invoke, hx, hy, he, Deferred.ofValue, hc]
  unfold Oper.wp
  rw [hr]
  refine (roles_any gb es user ok w hG).mono ?_
  rintro e w' ⟨rb, k, A, rfl, h1, h2, h3⟩
  exact hK rb k A w' h1 h2 h3

theorem client_cells {x : World} {cp gb : Nat} {user : ByteArray} {r : Option Nat} (h : x.heap[cp]? = some (.cells (clientCells user gb r) 57 (0, 0))) :
    x.cell? ⟨cp, 2, none⟩ = some (.pointer (some ⟨gb, 0, none⟩)) ∧ x.cell? ⟨cp, 8, none⟩ = some (.string user) ∧ x.cell? ⟨cp, 14, none⟩ = some (.map r) ∧ x.frozen? ⟨cp, 14, none⟩ = false := by
  refine ⟨?_, ?_, ?_, frozen_of_row x cp 14 _ 57 h⟩ <;> simp [World.cell?, h, clientCells]

theorem map_ne_cells {x : World} {rb k cp : Nat} {z : Value} {f : List UInt8 → Value} {c : Array Value} {t : TypeId} {fz : Nat × Nat} (h : MapIs x rb k z f) (hc : x.heap[cp]? = some (.cells c t fz)) : rb ≠ cp := by
  obtain ⟨D, ⟨es, clock, hb0, F, hs, hD⟩, h2⟩ := h
  intro e
  subst e
  rw [hb0] at hc
  simp at hc

theorem below_undrew {x w : World} (h : Below x.drew.heap.size x.drew w) : Below x.heap.size x w := ⟨h.os, h.tape, h.output, h.size, h.block⟩

theorem minv_set {Wc W5 x w7 : World} {gb rb k : Nat} {es : List (ByteArray × ByteArray)} {user : ByteArray} {ok : Bool} {A : List ByteArray} (hB : Below Wc.heap.size Wc x) (hsz : W5.heap.size ≤ x.heap.size) (hlt : Wc.heap.size < W5.heap.size)
    (hrest : ∀ k, Wc.heap.size < k → k < W5.heap.size → x.heap[k]? = W5.heap[k]?) (hB7 : Below x.heap.size x w7) (hc7 : w7.heap[Wc.heap.size]? = some (.cells (clientCells user gb none) 57 (0, 0))) (hM7 : MapIs w7 rb k (.bool false) (memb A)) (hGot : Got es user ok A) :
    MInv Wc W5 gb es user ok (w7.setCell ⟨Wc.heap.size, 14, none⟩ (.map (some rb))) ∧ (w7.setCell ⟨Wc.heap.size, 14, none⟩ (.map (some rb))).heap[Wc.heap.size]? = some (.cells (clientCells user gb (some rb)) 57 (0, 0)) := by
  have h8 : (w7.setCell ⟨Wc.heap.size, 14, none⟩ (.map (some rb))).heap[Wc.heap.size]? = some (.cells (clientCells user gb (some rb)) 57 (0, 0)) := by
    rw [heap_setCell_same w7 Wc.heap.size 14 _ 57 _ hc7]
    rfl
  have hs7 := hB7.size
  refine ⟨⟨(hB.trans (hB7.mono hB.size)).setCell (Nat.le_refl _) _, by simp; omega, hlt, fun j h1 h2 => ?_, some rb, h8, .inr ⟨rb, k, A, rfl, hM7.block (Below.heap_setCell _ _ _ _ (map_ne_cells hM7 hc7)), hGot⟩⟩, h8⟩
  rw [Below.heap_setCell _ _ _ _ (by show j ≠ Wc.heap.size; omega), hB7.block j (by omega)]
  exact hrest j h1 h2

set_option maxRecDepth 100000 in
set_option maxHeartbeats 1600000 in
theorem member_model {Wc W5 : World} {gb : Nat} {es : List (ByteArray × ByteArray)} {user : ByteArray} {ok : Bool} {R : ByteArray → Bool} (hR : ∀ A, Got es user ok A → ∀ s, inL A s = R s) (hG : GraphAt Wc gb es user ok)
    (x : World) (role : ByteArray) (hI : MInv Wc W5 gb es user ok x) (hs : role.size ≤ maxLen) :
    Calls Yba.prog 17 #[.pointer (some ⟨Wc.heap.size, 0, none⟩), .string role] x fun e w' => e = .returned (.bool (!role.toList.isEmpty && R role)) ∧ MInv Wc W5 gb es user ok w' := by
  have HI := hidMk hI
  obtain ⟨hB, hsz, hlt, hrest, r, hc, hr⟩ := hI
  rcases hr with rfl | ⟨rb, k, A, rfl, hM, hGot⟩
  · have HG := hidMk (hG.below hB)
    obtain ⟨c2, c8, c14, cf14⟩ := client_cells hc
    have HH := hidMk hc
    have HRest := hidMk (And.intro hB (And.intro hsz (And.intro hlt hrest)))
    have HR := hidMk hR
    have hltx : Wc.heap.size < x.heap.size := by omega
    clear hc hB hsz hlt hrest hR hG
    have q35 : ∀ (w : World) (r : Option Nat), (binOp .eql 35 (.map r) (.map none)).run Yba.prog w = .ok (.bool r.isNone) w := fun w r => run_eql_map_nil w _ _ _ r Yba.underlying35
    go_enter Yba.func17, Yba.ntmps17
    go_upto_region 2 with fail
    go_region_law (refine step_roles rfl (.tmp 14) (.tmp 18) rfl gb es user ok (by simp [Act.eval, Act.put]) (by simp [Act.eval, Act.put]) HG.out.drew ?_; intro rb k A w7 hB7 hM7 hGot7; have e14 : w7.cell? ⟨Wc.heap.size, 14, none⟩ = some (.map none) := (hB7.cell (p := ⟨Wc.heap.size, 14, none⟩) hltx).trans c14; have ef14 : w7.frozen? ⟨Wc.heap.size, 14, none⟩ = false := (hB7.frozen (p := ⟨Wc.heap.size, 14, none⟩) hltx).trans cf14; have HB7 := hidMk hB7; have HM7 := hidMk (And.intro hM7 hGot7); clear hB7 hM7 hGot7)
    all_goals
      have hc7 : w7.heap[Wc.heap.size]? = some (.cells (clientCells user gb none) 57 (0, 0)) := (HB7.out.block Wc.heap.size hltx).trans HH.out
      have HI8 := hidMk (minv_set HRest.out.1 HRest.out.2.1 HRest.out.2.2.1 HRest.out.2.2.2 (below_undrew HB7.out) hc7 HM7.out.1 HM7.out.2)
      have hM8 : MapIs (w7.setCell ⟨Wc.heap.size, 14, none⟩ (.map (some rb))) rb k (.bool false) (memb A) := HM7.out.1.block (Below.heap_setCell _ _ _ _ (map_ne_cells HM7.out.1 hc7))
      have hlk := hM8.lookup Yba.underlying35 (zeroBool _) role hs
      rw [memb_val, HR.out A HM7.out.2] at hlk
      have c148 := (client_cells HI8.out.2).2.2.1
      clear hc7 hM8
      generalize w7.setCell ⟨Wc.heap.size, 14, none⟩ (.map (some rb)) = w8 at HI8 hlk c148 ⊢
      by_cases he : role.toList.isEmpty = true
      · go_wp2_with fail
        go_ret
        exact ⟨by rw [he]; rfl, HI8.out.1⟩
      · have he' : role.toList.isEmpty = false := by simpa using he
        clear he
        go_wp2_with fail
        go_ret
        exact ⟨by rw [he']; rfl, HI8.out.1⟩
  · have c14 := (client_cells hc).2.2.1
    refine (member_cached Wc.heap.size rb k (memb A) (R role) role x hs c14 hM (by rw [memb_val, hR A hGot])).mono ?_
    rintro e w' ⟨rfl, rfl⟩
    exact ⟨rfl, HI.out⟩
end Go.Proofs.Ybulkbeuk.Adm
