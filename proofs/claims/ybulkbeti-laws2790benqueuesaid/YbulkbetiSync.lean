/- Contracts of the library's functions on the road of tryEnqueue: atomics, TryLock, Unlock, Signal (one goroutine). -/
import Derived.Test.YbulkbetiRows
import Derived.WalkKit
import Derived.ProofKit
import Derived.WalkSpells
import Derived.Laws.LoneSync
namespace Go.Proofs.Ybulkbeti.Sync
open Go.ChangeShapes Go.WideShapes Go.ChangeAt Go.RowKit

theorem disable (w : World) : (callFunc 36 #[]).run Yba.prog w = .ok (.value (.tuple #[])) w := run_call_mark0 Yba.func36 (by kernel_rfl) (by kernel_rfl) (by kernel_rfl) .disable (by kernel_rfl) w
theorem enable (w : World) : (callFunc 37 #[]).run Yba.prog w = .ok (.value (.tuple #[])) w := run_call_mark0 Yba.func37 (by kernel_rfl) (by kernel_rfl) (by kernel_rfl) .enable (by kernel_rfl) w
theorem acquire (a : Addr) (w : World) : (callFunc 39 #[.pointer (some a)]).run Yba.prog w = .ok (.value (.tuple #[])) w := run_call_marked Yba.func39 (by kernel_rfl) (by kernel_rfl) (by kernel_rfl) .acquire (by kernel_rfl) a w
theorem relMerge (a : Addr) (w : World) : (callFunc 40 #[.pointer (some a)]).run Yba.prog w = .ok (.value (.tuple #[])) w := run_call_marked Yba.func40 (by kernel_rfl) (by kernel_rfl) (by kernel_rfl) .releaseMerge (by kernel_rfl) a w

/-- (*atomic.Int32).Store -/
theorem store32 (b o : Nat) (v : Int) (u : Value) (w : World) (hc : w.cell? ⟨b, o, none⟩ = some u) (hz : w.frozen? ⟨b, o, none⟩ = false) :
    Calls Yba.prog 6 #[.pointer (some ⟨b, o, none⟩), .int .i32 v] w fun e w' => e = .returned (.tuple #[]) ∧ w' = w.setCell ⟨b, o, none⟩ (.int .i32 v) := by
  have hst := run_call_store (P := Yba.prog) Yba.func19 (by kernel_rfl) (by kernel_rfl) (by kernel_rfl) (by kernel_rfl) (k := .i32) (y := v) hc hz
  go_enter Yba.func6, Yba.ntmps6
  go_wp2
  go_end0
  exact ⟨rfl, rfl⟩

/-- (*atomic.Int64).Store -/
theorem store64 (b o : Nat) (v : Int) (u : Value) (w : World) (hc : w.cell? ⟨b, o, none⟩ = some u) (hz : w.frozen? ⟨b, o, none⟩ = false) :
    Calls Yba.prog 7 #[.pointer (some ⟨b, o, none⟩), .int .i64 v] w fun e w' => e = .returned (.tuple #[]) ∧ w' = w.setCell ⟨b, o, none⟩ (.int .i64 v) := by
  have hst := run_call_store (P := Yba.prog) Yba.func20 (by kernel_rfl) (by kernel_rfl) (by kernel_rfl) (by kernel_rfl) (k := .i64) (y := v) hc hz
  go_enter Yba.func7, Yba.ntmps7
  go_wp2
  go_end0
  exact ⟨rfl, rfl⟩

/-- (*atomic.Int64).Load -/
theorem load64 (b o : Nat) (v : Int) (w : World) (hc : w.cell? ⟨b, o, none⟩ = some (.int .i64 v)) :
    Calls Yba.prog 12 #[.pointer (some ⟨b, o, none⟩)] w fun e w' => e = .returned (.int .i64 v) ∧ w' = w := by
  have hld := run_call_load (P := Yba.prog) Yba.func30 (by kernel_rfl) (by kernel_rfl) (by kernel_rfl) .i64 (by kernel_rfl) hc
  go_enter Yba.func12, Yba.ntmps12
  go_wp2
  go_ret
  exact ⟨rfl, rfl⟩

/-- (*atomic.Int32).Load -/
theorem load32 (b o : Nat) (v : Int) (w : World) (hc : w.cell? ⟨b, o, none⟩ = some (.int .i32 v)) :
    Calls Yba.prog 13 #[.pointer (some ⟨b, o, none⟩)] w fun e w' => e = .returned (.int .i32 v) ∧ w' = w := by
  have hld := run_call_load (P := Yba.prog) Yba.func31 (by kernel_rfl) (by kernel_rfl) (by kernel_rfl) .i32 (by kernel_rfl) hc
  go_enter Yba.func13, Yba.ntmps13
  go_wp2
  go_ret
  exact ⟨rfl, rfl⟩

/-- (*atomic.Int64).Add -/
theorem add64 (b o : Nat) (v d : Int) (w : World) (hc : w.cell? ⟨b, o, none⟩ = some (.int .i64 v)) (hz : w.frozen? ⟨b, o, none⟩ = false) :
    Calls Yba.prog 24 #[.pointer (some ⟨b, o, none⟩), .int .i64 d] w fun e w' => e = .returned (.int .i64 (wrap64 (v + d))) ∧ w' = w.setCell ⟨b, o, none⟩ (.int .i64 (wrap64 (v + d))) := by
  have hadd := run_call_add (P := Yba.prog) Yba.func33 (by kernel_rfl) (by kernel_rfl) (by kernel_rfl) .i64 (by kernel_rfl) (y := d) (s := wrap64 (v + d)) hc hz (by simp [go_sem, wrap64, IntKind.wrap_i64])
  go_enter Yba.func24, Yba.ntmps24
  go_wp2
  go_ret
  exact ⟨rfl, rfl⟩

theorem to_unsafe (b o : Nat) (v : Value) (w : World) (hc : w.cell? ⟨b, o, none⟩ = some v) : (convert 116 43 (.pointer (some ⟨b, o, none⟩))).run Yba.prog w = .ok (.pointer (some ⟨b, o, none⟩)) w :=
  run_convert_to_unsafe Yba.underlying116 Yba.underlying43 (by kernel_rfl) hc

set_option maxRecDepth 100000 in
/-- (*internal/sync.Mutex).TryLock at a free lock -/
theorem itry (b o : Nat) (w : World) (hc : w.cell? ⟨b, o, none⟩ = some (.int .i32 0)) (hz : w.frozen? ⟨b, o, none⟩ = false) :
    Calls Yba.prog 28 #[.pointer (some ⟨b, o, none⟩)] w fun e w' => e = .returned (.bool true) ∧ w' = w.setCell ⟨b, o, none⟩ (.int .i32 1) := by
  have h1 := disable
  have h2 := enable
  have h3 := acquire
  have hcas := run_call_cas_hit (P := Yba.prog) Yba.func38 (by kernel_rfl) (by kernel_rfl) (by kernel_rfl) .i32 (by kernel_rfl) (y := 1) hc hz
  have hu := to_unsafe b o (.int .i32 1) (w.setCell ⟨b, o, none⟩ (.int .i32 1)) (World.cell?_setCell_same _ _ _ hc)
  go_enter Yba.func28, Yba.ntmps28
  go_wp2
  go_ret
  exact ⟨rfl, rfl⟩

/-- (*sync.Mutex).TryLock at a free lock -/
theorem tryLock (b o : Nat) (w : World) (hc : w.cell? ⟨b, o, none⟩ = some (.int .i32 0)) (hz : w.frozen? ⟨b, o, none⟩ = false) :
    Calls Yba.prog 10 #[.pointer (some ⟨b, o, none⟩)] w fun e w' => e = .returned (.bool true) ∧ w' = w.setCell ⟨b, o, none⟩ (.int .i32 1) := by
  go_enter Yba.func10, Yba.ntmps10
  go_wp2_with (go_at_call 28; refine (itry b o _ hc hz).mono ?_; rintro e w' ⟨rfl, rfl⟩)
  go_ret
  exact ⟨rfl, rfl⟩

set_option maxRecDepth 100000 in
/-- (*internal/sync.Mutex).Unlock at a lock that is held, nobody waiting -/
theorem iunlock (b o : Nat) (w : World) (hc : w.cell? ⟨b, o, none⟩ = some (.int .i32 1)) (hz : w.frozen? ⟨b, o, none⟩ = false) :
    Calls Yba.prog 29 #[.pointer (some ⟨b, o, none⟩)] w fun e w' => e = .returned (.tuple #[]) ∧ w' = w.setCell ⟨b, o, none⟩ (.int .i32 0) := by
  have h1 := disable
  have h2 := enable
  have h3 := relMerge
  have hadd := run_call_add (P := Yba.prog) Yba.func41 (by kernel_rfl) (by kernel_rfl) (by kernel_rfl) .i32 (by kernel_rfl) (y := -1) (s := 0) hc hz (by simp [go_sem, IntKind.wrap_i32])
  have hu := to_unsafe b o (.int .i32 1) w hc
  go_enter Yba.func29, Yba.ntmps29
  go_wp2
  go_end0
  exact ⟨rfl, rfl⟩

/-- (*sync.Mutex).Unlock -/
theorem unlock (b o : Nat) (w : World) (hc : w.cell? ⟨b, o, none⟩ = some (.int .i32 1)) (hz : w.frozen? ⟨b, o, none⟩ = false) :
    Calls Yba.prog 11 #[.pointer (some ⟨b, o, none⟩)] w fun e w' => e = .returned (.tuple #[]) ∧ w' = w.setCell ⟨b, o, none⟩ (.int .i32 0) := by
  go_enter Yba.func11, Yba.ntmps11
  go_wp2_with (go_at_call 29; refine (iunlock b o _ hc hz).mono ?_; rintro e w' ⟨rfl, rfl⟩)
  go_end0
  exact ⟨rfl, rfl⟩

theorem run_check (a : Addr) (w : World) (hc : w.cell? a = some (.int .u64 0)) (hz : w.frozen? a = false) :
    (callFunc 34 #[.pointer (some a)]).run Yba.prog w = .ok (.value (.tuple #[])) (w.setCell a (.pointer (some a))) := by
  rw [run_callFunc_extern (e := Extern.SyncCond.check) Yba.func34 (by kernel_rfl) (by kernel_rfl) (by kernel_rfl) (by kernel_rfl)]
  change (Sem.run Yba.prog (do
    let c ← asAddr (.pointer (some a))
    if ← Extern.SyncCond.isSelf c (← load c) then return Extern.SyncCond.none_
    mark .disable
    let old ← load c .atomic
    if let .int .u64 0 := old then store c (.pointer (some c)) .atomic
    mark .enable
    if let .int .u64 0 := old then return Extern.SyncCond.none_
    if let .pointer (some a) := old then
      if a.block != c.block then unsupported (.noEntry _)
    panicString _) w).andThen _ = _
  simp [Extern.SyncCond.isSelf, asAddr, hc, hz, run_store Yba.prog w a (.pointer (some a)) .atomic rfl, Result.andThen, Extern.SyncCond.none_]

theorem run_notifyOne (b o : Nat) (w : World) (hc : w.cell? ⟨b, o, none⟩ = some (.int .u32 0)) (hc1 : w.cell? ⟨b, o + 1, none⟩ = some (.int .u32 0)) :
    (callFunc 35 #[.pointer (some ⟨b, o, none⟩)]).run Yba.prog w = .ok (.value (.tuple #[])) w := by
  rw [run_callFunc_extern (e := Extern.SyncCond.notifyOne) Yba.func35 (by kernel_rfl) (by kernel_rfl) (by kernel_rfl) (by kernel_rfl)]
  simp [Extern.SyncCond.notifyOne, Extern.SyncCond.list, Extern.SyncCond.counter, Addr.add, hc, hc1, Result.andThen, Extern.SyncCond.none_]

set_option maxRecDepth 100000 in
/-- (*sync.Cond).Signal, at a Cond that was not used yet: nobody waits -/
theorem signal (b o : Nat) (w : World) (hc1 : w.cell? ⟨b, o + 1, none⟩ = some (.int .u32 0)) (hc2 : w.cell? ⟨b, o + 1 + 1, none⟩ = some (.int .u32 0))
    (hc : w.cell? ⟨b, o + 6, none⟩ = some (.int .u64 0)) (hz : w.frozen? ⟨b, o + 6, none⟩ = false) :
    Calls Yba.prog 27 #[.pointer (some ⟨b, o, none⟩)] w fun e w' => e = .returned (.tuple #[]) ∧ w' = w.setCell ⟨b, o + 6, none⟩ (.pointer (some ⟨b, o + 6, none⟩)) := by
  have h1 := run_check ⟨b, o + 6, none⟩ w hc hz
  have h2 := run_notifyOne b (o + 1) (w.setCell ⟨b, o + 6, none⟩ (.pointer (some ⟨b, o + 6, none⟩))) (by rw [World.cell?_setCell_other _ _ _ _ (by simp)]; exact hc1) (by rw [World.cell?_setCell_other _ _ _ _ (by simp)]; exact hc2)
  go_enter Yba.func27, Yba.ntmps27
  go_wp2
  go_end0
  exact ⟨rfl, rfl⟩
end Go.Proofs.Ybulkbeti.Sync
