/-
  OWN WORK. A COMMUNICATION (a send with room, a receive from a buffer that holds something) INSIDE A REGION, FOR THE KIT's 'Code.wp', ONE GOROUTINE. 'Code.wp' speaks of the machine's own steps, so a region that holds a communication has a rule like any other: each plain operation by its run, the communication by the machine's step (Derived/Conc/LoneCalls.lean).
-/
import Derived.Conc.LoneCalls
import Derived.WalkKit
namespace Go.Proofs.Ybulkbyzk
open Go Go.Conc

/-- What is left of a region, from operation list 'l' on. -/
def InReg (P : Program) (ops : Array Oper) (Q : Exit → Act → World → Prop) (l : List Nat) (a : Act) (w : World) : Prop :=
  ∀ (b : Frame) (k : List Item) (cs : List Frame), ∃ e a' w', Q e a' w' ∧ Arrives P (lone (b.at a (.inRegion ops l :: k)) cs w) b k cs e a' w'

section
variable {P : Program} {ops : Array Oper} {Q : Exit → Act → World → Prop} {a : Act} {w w' : World} {i : Nat} {rest : List Nat} {o : Oper}

theorem InReg.region {id : Nat} (h : InReg P ops Q (List.range ops.size) a w) : (Code.region id ops false).wp P Q a w :=
  fun b k cs => let ⟨e, a', w', q, r⟩ := h b k cs; ⟨e, a', w', q, .of_steps (.one step_region) r⟩

theorem InReg.nil (h : Q .normal a w) : InReg P ops Q [] a w := fun _ _ _ => ⟨.normal, a, w, h, .one step_region_end⟩

theorem InReg.plain {v : Value} (ho : ops[i]? = some o) (hg : o.guard = none) (hr : (execOp a.eval o).run P w = .ok (.value v) w')
    (h : InReg P ops Q rest (a.put o.dst v) w') : InReg P ops Q (i :: rest) a w := by
  intro b k cs
  obtain ⟨e, a', w'', hq, harr⟩ := h b k cs
  have hw : Region.wanted o (yielded ops a.tmps) = true := by simp [Region.wanted, hg]
  have hg := stepG_op (P := P) (b := b) (k := k) (cs := cs) (w := w) (rest := rest) ho hw
  have hfin : ∀ v, (b.at a (.inRegion ops (i :: rest) :: k)).finish v = b.at (a.put o.dst v) (.inRegion ops rest :: k) := by
    intro v; rw [Frame.finish_at, ho]; rfl
  refine ⟨e, a', w'', hq, .of_steps (.one (step_lone_go ?_)) harr⟩
  rw [hg, ← hfin]; simp [stepG.apply, hr]

theorem InReg.same (v : Value) (ho : ops[i]? = some o) (hg : o.guard = none) (hr : (execOp a.eval o).run P w = .ok (.value v) w)
    (h : InReg P ops Q rest (a.put o.dst v) w) : InReg P ops Q (i :: rest) a w := InReg.plain ho hg hr h

theorem stepG_comm_any {b : Frame} {k : List Item} {cs : List Frame} {cases : Array CommCase} {blocking : Bool} {shape : CommShape} (ho : ops[i]? = some o) (hg : o.guard = none)
    (hr : (execOp a.eval o).run P w = .ok (.comm cases blocking shape) w') :
    ∃ es, stepG P true (G (b.at a (.inRegion ops (i :: rest) :: k)) cs) w = .comm (G (b.at a (.inRegion ops (i :: rest) :: k)) cs) cases blocking shape w' es := by
  have hw : Region.wanted o (yielded ops a.tmps) = true := by simp [Region.wanted, hg]
  have hs := stepG_op (P := P) (b := b) (k := k) (cs := cs) (w := w) (rest := rest) ho hw
  unfold G
  rw [hs]
  simp [stepG.apply, hr, Frame.at, GStep.after]

theorem InReg.send {c cap s r : Nat} {buf : Array Value} {v z : Value} {tm : Bool} (ho : ops[i]? = some o) (hg : o.guard = none)
    (hr : (execOp a.eval o).run P w = .ok (.comm #[scase c v z] true .send) w) (hc : w.heap[c]? = some (.chan cap buf false s r tm)) (hroom : buf.size < cap)
    (h : InReg P ops Q rest (a.put o.dst undef) (w.setChan c cap (buf.push v) false (s + 1) r tm)) : InReg P ops Q (i :: rest) a w := by
  intro b k cs
  obtain ⟨e, a', w'', hq, harr⟩ := h b k cs
  obtain ⟨es, hs⟩ := stepG_comm_any (b := b) (k := k) (cs := cs) (rest := rest) ho hg hr
  have hfin : (b.at a (.inRegion ops (i :: rest) :: k)).finish undef = b.at (a.put o.dst undef) (.inRegion ops rest :: k) := by
    rw [Frame.finish_at, ho]; rfl
  have hst := step_lone_send_room hs hc hroom
  rw [hfin] at hst
  exact ⟨e, a', w'', hq, .of_steps (.one hst) harr⟩

theorem InReg.recv {c cap s r : Nat} {buf : Array Value} {z : Value} {tm closed : Bool} (ho : ops[i]? = some o) (hg : o.guard = none)
    (hr : (execOp a.eval o).run P w = .ok (.comm #[rcase c z] true (.recv false)) w) (hc : w.heap[c]? = some (.chan cap buf closed s r tm)) (hsome : 0 < buf.size)
    (h : InReg P ops Q rest (a.put o.dst (buf.getD 0 undef)) (w.setChan c cap (buf.extract 1 buf.size) closed s (r + 1) tm)) : InReg P ops Q (i :: rest) a w := by
  intro b k cs
  obtain ⟨e, a', w'', hq, harr⟩ := h b k cs
  obtain ⟨es, hs⟩ := stepG_comm_any (b := b) (k := k) (cs := cs) (rest := rest) ho hg hr
  have hfin : ∀ v, (b.at a (.inRegion ops (i :: rest) :: k)).finish v = b.at (a.put o.dst v) (.inRegion ops rest :: k) := by
    intro v; rw [Frame.finish_at, ho]; rfl
  have hst := step_lone_recv_buf false hs hc hsome
  rw [hfin] at hst
  exact ⟨e, a', w'', hq, .of_steps (.one hst) harr⟩
end
end Go.Proofs.Ybulkbyzk
