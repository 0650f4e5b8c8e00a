/- Contracts of the Pool's own functions on the road of tryEnqueue. -/
import Derived.Test.YbulkbetiSync
import Derived.Laws.EntriesVeiled
namespace Go.Proofs.Ybulkbeti.Pool
open Go.ChangeShapes Go.WideShapes Go.ChangeAt Go.RowKit

theorem hidMk {p : Prop} (h : p) : Hid p := h

/-- (*Pool).hasRoom -/
theorem hasRoom (b : Nat) (n bu wt : Int) (w : World) (hn : 0 ≤ n ∧ n ≤ 100) (hb : 0 ≤ bu ∧ bu ≤ 100) (hw : 0 ≤ wt ∧ wt ≤ 100)
    (h4 : w.cell? ⟨b, 4, none⟩ = some (.int .i64 bu)) (h10 : w.cell? ⟨b, 10, none⟩ = some (.int .i64 n)) :
    Calls Yba.prog 22 #[.pointer (some ⟨b, 0, none⟩), .int .i64 wt] w fun e w' => e = .returned (.bool (decide (n < bu + wt))) ∧ w' = w.drew := by
  obtain ⟨hn0, hn1⟩ := hn
  obtain ⟨hb0, hb1⟩ := hb
  obtain ⟨hw0, hw1⟩ := hw
  go_enter Yba.func22, Yba.ntmps22
  go_wp2
  go_region
  all_goals
    go_wp2
    go_ret
    exact ⟨rfl, rfl⟩

/-- (*waitList).claim: all waiters signaled -/
theorem claim_no (b : Nat) (x : Int) (w : World) 
    (h19 : w.cell? ⟨b, 19, none⟩ = some (.int .i64 x)) (h20 : w.cell? ⟨b, 20, none⟩ = some (.int .i64 x)) :
    Calls Yba.prog 25 #[.pointer (some ⟨b, 12, none⟩)] w fun e w' => e = .returned (.bool false) ∧ w' = w.drew := by
  go_enter Yba.func25, Yba.ntmps25
  go_wp2
  go_region
  all_goals
    go_wp2
    go_ret
    exact ⟨rfl, rfl⟩

/-- (*waitList).claim: one more is signaled -/
theorem claim_yes (b : Nat) (x y : Int) (w : World) (hy0 : 0 ≤ y) (hy : y ≤ 100) (hne : (y == x) = false)
    (h19 : w.cell? ⟨b, 19, none⟩ = some (.int .i64 x)) (h20 : w.cell? ⟨b, 20, none⟩ = some (.int .i64 y)) (f20 : w.frozen? ⟨b, 20, none⟩ = false) :
    Calls Yba.prog 25 #[.pointer (some ⟨b, 12, none⟩)] w fun e w' => e = .returned (.bool true) ∧ w' = (w.setCell ⟨b, 20, none⟩ (.int .i64 (y + 1))).drew := by
  go_enter Yba.func25, Yba.ntmps25
  go_wp2
  go_region
  all_goals
    go_wp2
    go_ret
    exact ⟨rfl, rfl⟩

/-- (*taskRing).push, no turn round the ring's end -/
theorem push_lo (b tb size : Nat) (h n : Int) (task old : Value) (fn : Fn) (f1 f2 : Array Value) (ht : task = .func fn f1 f2) (w : World) (hh : 0 ≤ h ∧ h ≤ 100) (hn : 0 ≤ n ∧ n ≤ 100) (hs : size ≤ 100) (hlt : h + n < size) (hne : ¬ tb = b)
    (h8 : w.cell? ⟨b, 8, none⟩ = some (.slice (some ⟨tb, 0, none⟩) size size)) (h9 : w.cell? ⟨b, 9, none⟩ = some (.int .i64 h)) (h10 : w.cell? ⟨b, 10, none⟩ = some (.int .i64 n)) (f10 : w.frozen? ⟨b, 10, none⟩ = false)
    (ho : w.cell? ⟨tb, (h + n).toNat, none⟩ = some old) (fo : w.frozen? ⟨tb, (h + n).toNat, none⟩ = false) :
    Calls Yba.prog 23 #[.pointer (some ⟨b, 8, none⟩), task] w fun e w' => e = .returned (.tuple #[]) ∧ w' = ((w.setCell ⟨tb, (h + n).toNat, none⟩ task).setCell ⟨b, 10, none⟩ (.int .i64 (n + 1))).drew := by
  obtain ⟨hh0, hh1⟩ := hh
  obtain ⟨hn0, hn1⟩ := hn
  subst ht
  have hne' : ¬ b = tb := fun e => hne e.symm
  go_enter Yba.func23, Yba.ntmps23
  go_wp2
  go_region
  all_goals
    go_wp2
    go_end0
    exact ⟨rfl, rfl⟩

/-- (*taskRing).push, round the ring's end -/
theorem push_hi (b tb size : Nat) (h n : Int) (task old : Value) (fn : Fn) (f1 f2 : Array Value) (ht : task = .func fn f1 f2) (w : World) (hh : 0 ≤ h ∧ h ≤ 100) (hn : 0 ≤ n ∧ n ≤ 100) (hs : size ≤ 100) (hge : (size : Int) ≤ h + n) (hlt : h + n - size < size) (hne : ¬ tb = b)
    (h8 : w.cell? ⟨b, 8, none⟩ = some (.slice (some ⟨tb, 0, none⟩) size size)) (h9 : w.cell? ⟨b, 9, none⟩ = some (.int .i64 h)) (h10 : w.cell? ⟨b, 10, none⟩ = some (.int .i64 n)) (f10 : w.frozen? ⟨b, 10, none⟩ = false)
    (ho : w.cell? ⟨tb, ((h + n).toNat - size), none⟩ = some old) (fo : w.frozen? ⟨tb, ((h + n).toNat - size), none⟩ = false) :
    Calls Yba.prog 23 #[.pointer (some ⟨b, 8, none⟩), task] w fun e w' => e = .returned (.tuple #[]) ∧ w' = ((w.setCell ⟨tb, ((h + n).toNat - size), none⟩ task).setCell ⟨b, 10, none⟩ (.int .i64 (n + 1))).drew := by
  obtain ⟨hh0, hh1⟩ := hh
  obtain ⟨hn0, hn1⟩ := hn
  subst ht
  have hne' : ¬ b = tb := fun e => hne e.symm
  have hp : 0 ≤ h + n - size := by omega
  go_enter Yba.func23, Yba.ntmps23
  go_wp2
  go_region
  all_goals
    go_wp2
    go_end0
    exact ⟨rfl, rfl⟩

theorem setCell_self (w : World) (b o : Nat) (v : Value) (h : w.cell? ⟨b, o, none⟩ = some v) : w.setCell ⟨b, o, none⟩ v = w := by
  unfold World.cell? at h
  have hh : (w.heap.modify b fun
      | .cells c elem frozen => .cells (c.setIfInBounds o v) elem frozen
      | o => o) = w.heap := by
    apply Array.ext_getElem?
    intro i
    rw [Array.getElem?_modify]
    split
    · rename_i hi
      subst hi
      cases hb : w.heap[b]? with
      | none => rfl
      | some ob =>
        rw [hb] at h
        cases ob with
        | cells c e f =>
          simp at h ⊢
          apply Array.ext_getElem?
          intro j
          by_cases hj : o = j
          · subst hj
            rw [Array.getElem?_setIfInBounds_self]
            split
            · exact h.symm
            · rename_i hlt
              simp [Array.getElem?_eq_none (Nat.le_of_not_lt hlt)]
          · rw [Array.getElem?_setIfInBounds_ne hj]
        | _ => rfl
    · rfl
  cases w
  simp only [World.setCell] at *
  simp
  exact hh

/-- (*Pool).publishIntake, the queue closed -/
theorem pub_closed (b : Nat) (wt it : Int) (w : World)
    (h11 : w.cell? ⟨b, 11, none⟩ = some (.bool true)) (h22 : w.cell? ⟨b, 22, none⟩ = some (.int .i32 it)) (f22 : w.frozen? ⟨b, 22, none⟩ = false) :
    Calls Yba.prog 26 #[.pointer (some ⟨b, 0, none⟩), .int .i64 wt] w fun e w' => e = .returned (.tuple #[]) ∧ w' = w.setCell ⟨b, 22, none⟩ (.int .i32 2) := by
  by_cases h : it = 2
  · subst h
    go_enter Yba.func26, Yba.ntmps26
    go_wp2_with (go_at_call 13; refine (Sync.load32 b 22 2 _ h22).mono ?_; rintro e w' ⟨rfl, rfl⟩)
    go_end0
    exact ⟨rfl, (setCell_self _ _ _ _ h22).symm⟩
  · have hn : (it != 2) = true := by simpa using h
    go_enter Yba.func26, Yba.ntmps26
    go_wp2_with (first | (go_at_call 13; refine (Sync.load32 b 22 it _ h22).mono ?_; rintro e w' ⟨rfl, rfl⟩) | (go_at_call 6; refine (Sync.store32 b 22 2 _ _ h22 f22).mono ?_; rintro e w' ⟨rfl, rfl⟩))
    go_end0
    exact ⟨rfl, rfl⟩

/-- (*Pool).publishIntake, the queue open, room left -/
theorem pub_room (b : Nat) (n bu wt it : Int) (w : World) (hn : 0 ≤ n ∧ n ≤ 100) (hb : 0 ≤ bu ∧ bu ≤ 100) (hw : 0 ≤ wt ∧ wt ≤ 100) (hr : n < bu + wt)
    (h4 : w.cell? ⟨b, 4, none⟩ = some (.int .i64 bu)) (h10 : w.cell? ⟨b, 10, none⟩ = some (.int .i64 n))
    (h11 : w.cell? ⟨b, 11, none⟩ = some (.bool false)) (h22 : w.cell? ⟨b, 22, none⟩ = some (.int .i32 it)) (f22 : w.frozen? ⟨b, 22, none⟩ = false) :
    Calls Yba.prog 26 #[.pointer (some ⟨b, 0, none⟩), .int .i64 wt] w fun e w' => e = .returned (.tuple #[]) ∧ w' = (w.setCell ⟨b, 22, none⟩ (.int .i32 0)).drew := by
  have hroom := hasRoom b n bu wt w hn hb hw h4 h10
  have hd : decide (n < bu + wt) = true := by simpa using hr
  rw [hd] at hroom
  clear hr hd hn hb hw
  have HR := hidMk hroom
  clear hroom
  by_cases h : it = 0
  · subst h
    go_enter Yba.func26, Yba.ntmps26
    go_wp2_with (first | (go_at_call 13; refine (Sync.load32 b 22 0 _ ?_).mono ?_; exact h22; rintro e w' ⟨rfl, rfl⟩) | (go_at_call 22; refine HR.out.mono ?_; rintro e w' ⟨rfl, rfl⟩))
    go_end0
    exact ⟨rfl, by rw [setCell_self _ _ _ _ h22]⟩
  · have hne : (it != 0) = true := by simpa using h
    clear h
    go_enter Yba.func26, Yba.ntmps26
    go_wp2_with (first | (go_at_call 13; refine (Sync.load32 b 22 it _ ?_).mono ?_; exact h22; rintro e w' ⟨rfl, rfl⟩) | (go_at_call 6; refine (Sync.store32 b 22 0 (.int .i32 it) _ ?_ ?_).mono ?_; exact h22; exact f22; rintro e w' ⟨rfl, rfl⟩) | (go_at_call 22; refine HR.out.mono ?_; rintro e w' ⟨rfl, rfl⟩))
    go_end0
    exact ⟨rfl, rfl⟩

/-- (*Pool).publishIntake, the queue open, full -/
theorem pub_full (b : Nat) (n bu wt it : Int) (w : World) (hn : 0 ≤ n ∧ n ≤ 100) (hb : 0 ≤ bu ∧ bu ≤ 100) (hw : 0 ≤ wt ∧ wt ≤ 100) (hr : ¬ n < bu + wt)
    (h4 : w.cell? ⟨b, 4, none⟩ = some (.int .i64 bu)) (h10 : w.cell? ⟨b, 10, none⟩ = some (.int .i64 n))
    (h11 : w.cell? ⟨b, 11, none⟩ = some (.bool false)) (h22 : w.cell? ⟨b, 22, none⟩ = some (.int .i32 it)) (f22 : w.frozen? ⟨b, 22, none⟩ = false) :
    Calls Yba.prog 26 #[.pointer (some ⟨b, 0, none⟩), .int .i64 wt] w fun e w' => e = .returned (.tuple #[]) ∧ w' = (w.setCell ⟨b, 22, none⟩ (.int .i32 1)).drew := by
  have hroom := hasRoom b n bu wt w hn hb hw h4 h10
  have hd : decide (n < bu + wt) = false := by simpa using hr
  rw [hd] at hroom
  clear hr hd hn hb hw
  have HR := hidMk hroom
  clear hroom
  by_cases h : it = 1
  · subst h
    go_enter Yba.func26, Yba.ntmps26
    go_wp2_with (first | (go_at_call 13; refine (Sync.load32 b 22 1 _ ?_).mono ?_; exact h22; rintro e w' ⟨rfl, rfl⟩) | (go_at_call 22; refine HR.out.mono ?_; rintro e w' ⟨rfl, rfl⟩))
    go_end0
    exact ⟨rfl, by rw [setCell_self _ _ _ _ h22]⟩
  · have hne : (it != 1) = true := by simpa using h
    clear h
    go_enter Yba.func26, Yba.ntmps26
    go_wp2_with (first | (go_at_call 13; refine (Sync.load32 b 22 it _ ?_).mono ?_; exact h22; rintro e w' ⟨rfl, rfl⟩) | (go_at_call 6; refine (Sync.store32 b 22 1 (.int .i32 it) _ ?_ ?_).mono ?_; exact h22; exact f22; rintro e w' ⟨rfl, rfl⟩) | (go_at_call 22; refine HR.out.mono ?_; rintro e w' ⟨rfl, rfl⟩))
    go_end0
    exact ⟨rfl, rfl⟩

/-- (*taskRing).push: slot: where the task goes -/
theorem push (b tb size slot : Nat) (h n : Int) (old : Value) (fn : Fn) (f1 f2 : Array Value) (w : World) (hh : 0 ≤ h ∧ h ≤ 100) (hn : 0 ≤ n ∧ n ≤ 100) (hs : size ≤ 100) (hlt : slot < size)
    (hslot : (h + n < size ∧ slot = (h + n).toNat) ∨ ((size : Int) ≤ h + n ∧ slot = (h + n).toNat - size)) (hne : ¬ tb = b)
    (h8 : w.cell? ⟨b, 8, none⟩ = some (.slice (some ⟨tb, 0, none⟩) size size)) (h9 : w.cell? ⟨b, 9, none⟩ = some (.int .i64 h)) (h10 : w.cell? ⟨b, 10, none⟩ = some (.int .i64 n)) (f10 : w.frozen? ⟨b, 10, none⟩ = false)
    (ho : w.cell? ⟨tb, slot, none⟩ = some old) (fo : w.frozen? ⟨tb, slot, none⟩ = false) :
    Calls Yba.prog 23 #[.pointer (some ⟨b, 8, none⟩), .func fn f1 f2] w fun e w' => e = .returned (.tuple #[]) ∧ w' = ((w.setCell ⟨tb, slot, none⟩ (.func fn f1 f2)).setCell ⟨b, 10, none⟩ (.int .i64 (n + 1))).drew := by
  rcases hslot with ⟨h1, rfl⟩ | ⟨h1, rfl⟩
  · exact push_lo b tb size h n _ old fn f1 f2 rfl w hh hn hs h1 hne h8 h9 h10 f10 ho fo
  · exact push_hi b tb size h n _ old fn f1 f2 rfl w hh hn hs h1 (by omega) hne h8 h9 h10 f10 ho fo

/-- (*waitList).claim -/
theorem claim (b : Nat) (q : Bool) (x y y' : Int) (w : World) (hy0 : 0 ≤ y) (hy : y ≤ 100) (hq : (q = false ∧ y = x ∧ y' = y) ∨ (q = true ∧ y ≠ x ∧ y' = y + 1))
    (h19 : w.cell? ⟨b, 19, none⟩ = some (.int .i64 x)) (h20 : w.cell? ⟨b, 20, none⟩ = some (.int .i64 y)) (f20 : w.frozen? ⟨b, 20, none⟩ = false) :
    Calls Yba.prog 25 #[.pointer (some ⟨b, 12, none⟩)] w fun e w' => e = .returned (.bool q) ∧ w' = (w.setCell ⟨b, 20, none⟩ (.int .i64 y')).drew := by
  rcases hq with ⟨rfl, rfl, rfl⟩ | ⟨rfl, h1, rfl⟩
  · refine (claim_no b y' w h19 h20).mono ?_
    rintro e w' ⟨rfl, rfl⟩
    exact ⟨rfl, by rw [setCell_self _ _ _ _ h20]⟩
  · exact claim_yes b x y w hy0 hy (by simpa using h1) h19 h20 f20

/-- (*Pool).publishIntake, the queue open -/
theorem pub_open (b : Nat) (n bu wt it v : Int) (w : World) (hn : 0 ≤ n ∧ n ≤ 100) (hb : 0 ≤ bu ∧ bu ≤ 100) (hw : 0 ≤ wt ∧ wt ≤ 100) (hv : (n < bu + wt ∧ v = 0) ∨ (¬ n < bu + wt ∧ v = 1))
    (h4 : w.cell? ⟨b, 4, none⟩ = some (.int .i64 bu)) (h10 : w.cell? ⟨b, 10, none⟩ = some (.int .i64 n))
    (h11 : w.cell? ⟨b, 11, none⟩ = some (.bool false)) (h22 : w.cell? ⟨b, 22, none⟩ = some (.int .i32 it)) (f22 : w.frozen? ⟨b, 22, none⟩ = false) :
    Calls Yba.prog 26 #[.pointer (some ⟨b, 0, none⟩), .int .i64 wt] w fun e w' => e = .returned (.tuple #[]) ∧ w' = (w.setCell ⟨b, 22, none⟩ (.int .i32 v)).drew := by
  rcases hv with ⟨h1, rfl⟩ | ⟨h1, rfl⟩
  · exact pub_room b n bu wt it w hn hb hw h1 h4 h10 h11 h22 f22
  · exact pub_full b n bu wt it w hn hb hw h1 h4 h10 h11 h22 f22

set_option maxRecDepth 100000 in
set_option maxHeartbeats 800000 in
/-- tryEnqueue at a closed queue -/
theorem try_closed (b : Nat) (wt it : Int) (task : Value) (w : World)
    (h6 : w.cell? ⟨b, 6, none⟩ = some (.int .i32 0)) (h11 : w.cell? ⟨b, 11, none⟩ = some (.bool true)) (h19 : w.cell? ⟨b, 19, none⟩ = some (.int .i64 wt)) (h22 : w.cell? ⟨b, 22, none⟩ = some (.int .i32 it))
    (f : ∀ k, w.frozen? ⟨b, k, none⟩ = false) :
    Calls Yba.prog 9 #[.pointer (some ⟨b, 0, none⟩), task] w fun e w' => e = .returned (.bool false) ∧ w' = (((w.setCell ⟨b, 6, none⟩ (.int .i32 1)).setCell ⟨b, 22, none⟩ (.int .i32 2)).setCell ⟨b, 6, none⟩ (.int .i32 0)) := by
  have f6 := f 6
  have f22 := f 22
  go_enter Yba.func9, Yba.ntmps9
  go_wp2_with (first
    | (go_at_call 10; refine (Sync.tryLock b 6 _ h6 f6).mono ?_; rintro e w' ⟨rfl, rfl⟩)
    | (go_at_call 26; refine (pub_closed b wt it _ ?_ ?_ ?_).mono ?_; (go_simp); (go_simp); (go_simp); rintro e w' ⟨rfl, rfl⟩)
    | (go_at_call 11; refine (Sync.unlock b 6 _ ?_ ?_).mono ?_; (go_simp); (go_simp); rintro e w' ⟨rfl, rfl⟩))
  go_ret
  exact ⟨rfl, rfl⟩

set_option maxRecDepth 100000 in
set_option maxHeartbeats 800000 in
/-- tryEnqueue at a full queue -/
theorem try_full (b : Nat) (n bu wt it : Int) (task : Value) (w : World) (hn : 0 ≤ n ∧ n ≤ 100) (hb : 0 ≤ bu ∧ bu ≤ 100) (hw : 0 ≤ wt ∧ wt ≤ 100) (hfull : ¬ n < bu + wt)
    (h4 : w.cell? ⟨b, 4, none⟩ = some (.int .i64 bu)) (h6 : w.cell? ⟨b, 6, none⟩ = some (.int .i32 0)) (h10 : w.cell? ⟨b, 10, none⟩ = some (.int .i64 n)) (h11 : w.cell? ⟨b, 11, none⟩ = some (.bool false)) (h19 : w.cell? ⟨b, 19, none⟩ = some (.int .i64 wt)) (h22 : w.cell? ⟨b, 22, none⟩ = some (.int .i32 it))
    (f : ∀ k, w.frozen? ⟨b, k, none⟩ = false) :
    Calls Yba.prog 9 #[.pointer (some ⟨b, 0, none⟩), task] w fun e w' => e = .returned (.bool false) ∧ w' = (((w.setCell ⟨b, 6, none⟩ (.int .i32 1)).setCell ⟨b, 22, none⟩ (.int .i32 1)).setCell ⟨b, 6, none⟩ (.int .i32 0)).drew.drew := by
  have f6 := f 6
  have f22 := f 22
  have hd : decide (n < bu + wt) = false := by simpa using hfull
  have HR := hidMk (fun w h4 h10 => hd ▸ hasRoom b n bu wt w hn hb hw h4 h10)
  have HP := hidMk (fun w h4 h10 h11 h22 f22 => pub_open b n bu wt it 1 w hn hb hw (.inr ⟨hfull, rfl⟩) h4 h10 h11 h22 f22)
  clear hd hn hb hw hfull
  go_enter Yba.func9, Yba.ntmps9
  go_wp2_with (first
    | (go_at_call 10; refine (Sync.tryLock b 6 _ h6 f6).mono ?_; rintro e w' ⟨rfl, rfl⟩)
    | (go_at_call 22; refine (HR.out _ ?_ ?_).mono ?_; (go_simp); (go_simp); rintro e w' ⟨rfl, rfl⟩)
    | (go_at_call 26; refine (HP.out _ ?_ ?_ ?_ ?_ ?_).mono ?_; (go_simp); (go_simp); (go_simp); (go_simp); (go_simp); rintro e w' ⟨rfl, rfl⟩)
    | (go_at_call 11; refine (Sync.unlock b 6 _ ?_ ?_).mono ?_; (go_simp); (go_simp); rintro e w' ⟨rfl, rfl⟩))
  go_ret
  exact ⟨rfl, rfl⟩

/-- the world behind a task that was queued -/
def queued (w : World) (b tb slot : Nat) (n sub y' v : Int) (task : Value) : World :=
  (((((((w.setCell ⟨b, 6, none⟩ (.int .i32 1)).setCell ⟨tb, slot, none⟩ task).setCell ⟨b, 10, none⟩ (.int .i64 (n + 1))).setCell ⟨b, 26, none⟩ (.int .i64 (wrap64 (sub + 1)))).setCell ⟨b, 20, none⟩ (.int .i64 y')).setCell ⟨b, 22, none⟩ (.int .i32 v)).setCell ⟨b, 6, none⟩ (.int .i32 0))

set_option maxRecDepth 100000 in
set_option maxHeartbeats 1600000 in
/-- tryEnqueue at a queue with room, nobody to be signaled -/
theorem try_room (b tb size slot : Nat) (hd n bu wt sg sg' it v sub : Int) (q : Bool) (old : Value) (fn : Fn) (f1 f2 : Array Value) (w : World)
    (hh : 0 ≤ hd ∧ hd ≤ 100) (hn : 0 ≤ n ∧ n ≤ 99) (hb : 0 ≤ bu ∧ bu ≤ 100) (hw : 0 ≤ wt ∧ wt ≤ 100) (hs : size ≤ 100) (hsg : 0 ≤ sg ∧ sg ≤ 100) (hroom : n < bu + wt) (hlt : slot < size)
    (hslot : (hd + n < size ∧ slot = (hd + n).toNat) ∨ ((size : Int) ≤ hd + n ∧ slot = (hd + n).toNat - size)) (hne : ¬ tb = b)
    (hq : (q = false ∧ sg = wt ∧ sg' = sg) ∨ (q = true ∧ sg ≠ wt ∧ sg' = sg + 1)) (hv : (n + 1 < bu + wt ∧ v = 0) ∨ (¬ n + 1 < bu + wt ∧ v = 1))
    (h4 : w.cell? ⟨b, 4, none⟩ = some (.int .i64 bu)) (h6 : w.cell? ⟨b, 6, none⟩ = some (.int .i32 0)) (h8 : w.cell? ⟨b, 8, none⟩ = some (.slice (some ⟨tb, 0, none⟩) size size)) (h9 : w.cell? ⟨b, 9, none⟩ = some (.int .i64 hd))
    (h10 : w.cell? ⟨b, 10, none⟩ = some (.int .i64 n)) (h11 : w.cell? ⟨b, 11, none⟩ = some (.bool false)) (h13 : w.cell? ⟨b, 13, none⟩ = some (.int .u32 0)) (h14 : w.cell? ⟨b, 14, none⟩ = some (.int .u32 0)) (h18 : w.cell? ⟨b, 18, none⟩ = some (.int .u64 0))
    (h19 : w.cell? ⟨b, 19, none⟩ = some (.int .i64 wt)) (h20 : w.cell? ⟨b, 20, none⟩ = some (.int .i64 sg)) (h22 : w.cell? ⟨b, 22, none⟩ = some (.int .i32 it)) (h26 : w.cell? ⟨b, 26, none⟩ = some (.int .i64 sub))
    (ho : w.cell? ⟨tb, slot, none⟩ = some old) (f : ∀ k, w.frozen? ⟨b, k, none⟩ = false) (fo : w.frozen? ⟨tb, slot, none⟩ = false) :
    Calls Yba.prog 9 #[.pointer (some ⟨b, 0, none⟩), .func fn f1 f2] w fun e w' => e = .returned (.bool true) ∧ w' = (if q then (queued w b tb slot n sub sg' v (.func fn f1 f2)).setCell ⟨b, 18, none⟩ (.pointer (some ⟨b, 18, none⟩)) else queued w b tb slot n sub sg' v (.func fn f1 f2)).drew.drew.drew.drew := by
  have f6 := f 6
  have f10 := f 10
  have f18 := f 18
  have f20 := f 20
  have f22 := f 22
  have f26 := f 26
  have hne' : ¬ b = tb := fun e => hne e.symm
  have hdd : decide (n < bu + wt) = true := by simpa using hroom
  have HR := hidMk (fun w h4 h10 => hdd ▸ hasRoom b n bu wt w (by omega) hb hw h4 h10)
  have HP := hidMk (fun w h4 h10 h11 h22 f22 => pub_open b (n + 1) bu wt it v w (by omega) hb hw hv h4 h10 h11 h22 f22)
  have HQ := hidMk (fun w h8 h9 h10 f10 ho fo => push b tb size slot hd n old fn f1 f2 w hh (by omega) hs hlt hslot hne h8 h9 h10 f10 ho fo)
  have HC := hidMk (fun w h19 h20 f20 => claim b q wt sg sg' w hsg.1 hsg.2 hq h19 h20 f20)
  have hwrap := hidMk (wrap64_wf (sub + 1))
  clear hdd hn hb hw hroom hv hh hs hlt hslot hsg hq
  cases q
  · go_enter Yba.func9, Yba.ntmps9
    go_wp2_with (first
      | (go_at_call 10; refine (Sync.tryLock b 6 _ h6 f6).mono ?_; rintro e w' ⟨rfl, rfl⟩)
      | (go_at_call 22; refine (HR.out _ ?_ ?_).mono ?_; (go_simp); (go_simp); rintro e w' ⟨rfl, rfl⟩)
      | (go_at_call 23; refine (HQ.out _ ?_ ?_ ?_ ?_ ?_ ?_).mono ?_; (go_simp); (go_simp); (go_simp); (go_simp); (go_simp); (go_simp); rintro e w' ⟨rfl, rfl⟩)
      | (go_at_call 24; refine (Sync.add64 b 26 sub 1 _ ?_ ?_).mono ?_; (go_simp); (go_simp); rintro e w' ⟨rfl, rfl⟩)
      | (go_at_call 25; refine (HC.out _ ?_ ?_ ?_).mono ?_; (go_simp); (go_simp); (go_simp); rintro e w' ⟨rfl, rfl⟩)
      | (go_at_call 26; refine (HP.out _ ?_ ?_ ?_ ?_ ?_).mono ?_; (go_simp); (go_simp); (go_simp); (go_simp); (go_simp); rintro e w' ⟨rfl, rfl⟩)
      | (go_at_call 11; refine (Sync.unlock b 6 _ ?_ ?_).mono ?_; (go_simp); (go_simp); rintro e w' ⟨rfl, rfl⟩))
    go_ret
    exact ⟨rfl, rfl⟩
  · go_enter Yba.func9, Yba.ntmps9
    go_wp2_with (first
      | (go_at_call 10; refine (Sync.tryLock b 6 _ h6 f6).mono ?_; rintro e w' ⟨rfl, rfl⟩)
      | (go_at_call 22; refine (HR.out _ ?_ ?_).mono ?_; (go_simp); (go_simp); rintro e w' ⟨rfl, rfl⟩)
      | (go_at_call 23; refine (HQ.out _ ?_ ?_ ?_ ?_ ?_ ?_).mono ?_; (go_simp); (go_simp); (go_simp); (go_simp); (go_simp); (go_simp); rintro e w' ⟨rfl, rfl⟩)
      | (go_at_call 24; refine (Sync.add64 b 26 sub 1 _ ?_ ?_).mono ?_; (go_simp); (go_simp); rintro e w' ⟨rfl, rfl⟩)
      | (go_at_call 25; refine (HC.out _ ?_ ?_ ?_).mono ?_; (go_simp); (go_simp); (go_simp); rintro e w' ⟨rfl, rfl⟩)
      | (go_at_call 26; refine (HP.out _ ?_ ?_ ?_ ?_ ?_).mono ?_; (go_simp); (go_simp); (go_simp); (go_simp); (go_simp); rintro e w' ⟨rfl, rfl⟩)
      | (go_at_call 11; refine (Sync.unlock b 6 _ ?_ ?_).mono ?_; (go_simp); (go_simp); rintro e w' ⟨rfl, rfl⟩)
      | (go_at_call 27; refine (Sync.signal b 12 _ ?_ ?_ ?_ ?_).mono ?_; (go_simp); (go_simp); (go_simp); (go_simp); rintro e w' ⟨rfl, rfl⟩))
    go_ret
    exact ⟨rfl, rfl⟩
end Go.Proofs.Ybulkbeti.Pool
