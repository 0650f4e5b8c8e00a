/- A send into a buffer with room, for the walk 'Code.wp' of a lone goroutine: a region whose last operation is the send. -/
import Derived.Conc.LoneCalls
import Derived.WalkKit
namespace Go.Proofs.Ybulkbeti.Send
open Go.Conc

section
variable {P : Program} {ops : Array Oper} {Q : Exit → Act → World → Prop} {a : Act} {w : World}

/-- The region's operations that are still listed run to an end of which Q holds. -/
def RunsTo (P : Program) (ops : Array Oper) (Q : Exit → Act → World → Prop) (l : List Nat) (a : Act) (w : World) : Prop :=
  ∀ (b : Frame) (k : List Item) (cs : List Frame), ∃ e a' w', Q e a' w' ∧ Arrives P (lone (b.at a (.inRegion ops l :: k)) cs w) b k cs e a' w'

theorem RunsTo.nil (h : Q .normal a w) : RunsTo P ops Q [] a w := fun _ _ _ => ⟨.normal, a, w, h, .one step_region_end⟩

theorem RunsTo.value {i : Nat} {rest : List Nat} {o : Oper} {v : Value} {w' : World} (ho : ops[i]? = some o) (hw : Region.wanted o (yielded ops a.tmps) = true)
    (hr : (execOp a.eval o).run P w = .ok (.value v) w') (h : RunsTo P ops Q rest (a.put o.dst v) w') : RunsTo P ops Q (i :: rest) a w := by
  intro b k cs
  obtain ⟨e, a', w'', hq, harr⟩ := h b k cs
  have hg := stepG_op (P := P) (b := b) (k := k) (cs := cs) (w := w) (rest := rest) ho hw
  have hfin : (b.at a (.inRegion ops (i :: rest) :: k)).finish v = b.at (a.put o.dst v) (.inRegion ops rest :: k) := by
    rw [Frame.finish_at, ho]; rfl
  refine ⟨e, a', w'', hq, .of_steps (.one (step_lone_go ?_)) harr⟩
  rw [hg, ← hfin]; simp [stepG.apply, hr]

theorem RunsTo.send {i : Nat} {rest : List Nat} {o : Oper} {v z : Value} {w' : World} {c cap s r : Nat} {buf : Array Value} {tm : Bool} (ho : ops[i]? = some o) (hw : Region.wanted o (yielded ops a.tmps) = true)
    (hr : (execOp a.eval o).run P w = .ok (.comm #[scase c v z] true .send) w') (hc : w'.heap[c]? = some (.chan cap buf false s r tm)) (hroom : buf.size < cap)
    (h : RunsTo P ops Q rest (a.put o.dst undef) (w'.setChan c cap (buf.push v) false (s + 1) r tm)) : RunsTo P ops Q (i :: rest) a w := by
  intro b k cs
  obtain ⟨e, a', w'', hq, harr⟩ := h b k cs
  have hg := stepG_op (P := P) (b := b) (k := k) (cs := cs) (w := w) (rest := rest) ho hw
  have hfin : (b.at a (.inRegion ops (i :: rest) :: k)).finish undef = b.at (a.put o.dst undef) (.inRegion ops rest :: k) := by
    rw [Frame.finish_at, ho]; rfl
  obtain ⟨es, hes⟩ : ∃ es, stepG P true (G (b.at a (.inRegion ops (i :: rest) :: k)) cs) w = .comm (G (b.at a (.inRegion ops (i :: rest) :: k)) cs) #[scase c v z] true .send w' es := by
    have hg' : stepG P true (G (b.at a (.inRegion ops (i :: rest) :: k)) cs) w = _ := hg
    rw [hg']
    simp only [stepG.apply, Sem.runT_eq, hr, if_true, GStep.after, G]
    exact ⟨_, rfl⟩
  have hs := step_lone_send_room hes hc hroom
  rw [hfin] at hs
  exact ⟨e, a', w'', hq, .of_steps (.one hs) harr⟩

theorem wp_of_runsTo {id : Nat} (h : RunsTo P ops Q (List.range ops.size) a w) : (Code.region id ops false).wp P Q a w :=
  fun b k cs => let ⟨e, a', w', q, r⟩ := h b k cs; ⟨e, a', w', q, .of_steps (.one step_region) r⟩
end
end Go.Proofs.Ybulkbeti.Send
