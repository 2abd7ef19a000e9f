/-
  A send with room and a receive from a filled buffer, of a goroutine that is alone, as rules for the kit's walk ('Code.wp' is said of the machine's own steps, so a rule can be added from outside; the steps are the kit's Derived/Conc/LoneCalls).
-/
import Derived.Conc.LoneCalls
namespace Go.Proofs.Ybulkdebc.Chan
open Go Go.Conc

/-- From inside a region, with the operations 'l' still to do, the machine arrives where Q holds. -/
def InReg (P : Program) (ops : Array Oper) (Q : Exit → Act → World → Prop) (l : List Nat) (a : Act) (w : World) : Prop :=
  ∀ (b : Frame) (k : List Item) (cs : List Frame), ∃ e a' w', Q e a' w' ∧ Arrives P (lone (b.at a (.inRegion ops l :: k)) cs w) b k cs e a' w'

section
variable {P : Program} {ops : Array Oper} {Q : Exit → Act → World → Prop} {a : Act} {w w' : World} {rest : List Nat} {i : Nat} {o : Oper}

theorem InReg.nil (h : Q .normal a w) : InReg P ops Q [] a w := fun _ _ _ => ⟨.normal, a, w, h, .one step_region_end⟩

theorem InReg.value {v : Value} (ho : ops[i]? = some o) (hw : Region.wanted o (yielded ops a.tmps) = true) (hr : (execOp a.eval o).run P w = .ok (.value v) w')
    (h : InReg P ops Q rest (a.put o.dst v) w') : InReg P ops Q (i :: rest) a w := by
  intro b k cs
  obtain ⟨e, a', w'', hq, harr⟩ := h b k cs
  refine ⟨e, a', w'', hq, .of_steps (.one (step_lone_go ?_)) harr⟩
  have hfin : (b.at a (.inRegion ops (i :: rest) :: k)).finish v = b.at (a.put o.dst v) (.inRegion ops rest :: k) := by
    rw [Frame.finish_at, ho]; rfl
  rw [stepG_op ho hw, ← hfin]; simp [stepG.apply, hr]

/-- The step of a communication, of whatever frame: it is handed up to the machine; the frame stands. -/
theorem stepG_comm_any {b : Frame} {k : List Item} {cs : List Frame} {cases : Array CommCase} {blocking : Bool} {shape : CommShape} (ho : ops[i]? = some o) (hw : Region.wanted o (yielded ops a.tmps) = true)
    (hr : (execOp a.eval o).run P w = .ok (.comm cases blocking shape) w') :
    ∃ es, stepG P true (G (b.at a (.inRegion ops (i :: rest) :: k)) cs) w = .comm (G (b.at a (.inRegion ops (i :: rest) :: k)) cs) cases blocking shape w' es := by
  rw [stepG_oper ho hw]
  simp only [stepG.apply, Sem.runT_eq, if_true, hr, GStep.after]
  exact ⟨_, rfl⟩

theorem wp_of_inReg {id : Nat} (h : InReg P ops Q (List.range ops.size) a w) : (Code.region id ops false).wp P Q a w :=
  fun b k cs => let ⟨e, a', w', q, r⟩ := h b k cs; ⟨e, a', w', q, .of_steps (.one step_region) r⟩

theorem InReg.send {c cap s r : Nat} {buf : Array Value} {v z : Value} {tm : Bool} (ho : ops[i]? = some o) (hw : Region.wanted o (yielded ops a.tmps) = true)
    (hr : (execOp a.eval o).run P w = .ok (.comm #[scase c v z] true .send) w) (hc : w.heap[c]? = some (.chan cap buf false s r tm)) (hroom : buf.size < cap)
    (h : InReg P ops Q rest (a.put o.dst undef) (w.setChan c cap (buf.push v) false (s + 1) r tm)) : InReg P ops Q (i :: rest) a w := by
  intro b k cs
  obtain ⟨e, a', w'', hq, harr⟩ := h b k cs
  have hfin : (b.at a (.inRegion ops (i :: rest) :: k)).finish undef = b.at (a.put o.dst undef) (.inRegion ops rest :: k) := by
    rw [Frame.finish_at, ho]; rfl
  refine ⟨e, a', w'', hq, .of_steps (.one ?_) harr⟩
  rw [← hfin]
  obtain ⟨es, hs⟩ := stepG_comm_any (b := b) (k := k) (cs := cs) (rest := rest) ho hw hr
  exact step_lone_send_room hs hc hroom

theorem InReg.recv {c cap s r : Nat} {buf : Array Value} {z : Value} {tm closed : Bool} (ho : ops[i]? = some o) (hw : Region.wanted o (yielded ops a.tmps) = true)
    (hr : (execOp a.eval o).run P w = .ok (.comm #[rcase c z] true (.recv false)) w) (hc : w.heap[c]? = some (.chan cap buf closed s r tm)) (hsome : 0 < buf.size)
    (h : InReg P ops Q rest (a.put o.dst (buf.getD 0 undef)) (w.setChan c cap (buf.extract 1 buf.size) closed s (r + 1) tm)) : InReg P ops Q (i :: rest) a w := by
  intro b k cs
  obtain ⟨e, a', w'', hq, harr⟩ := h b k cs
  have hfin : (b.at a (.inRegion ops (i :: rest) :: k)).finish (buf.getD 0 undef) = b.at (a.put o.dst (buf.getD 0 undef)) (.inRegion ops rest :: k) := by
    rw [Frame.finish_at, ho]; rfl
  refine ⟨e, a', w'', hq, .of_steps (.one ?_) harr⟩
  rw [← hfin]
  obtain ⟨es, hs⟩ := stepG_comm_any (b := b) (k := k) (cs := cs) (rest := rest) ho hw hr
  exact step_lone_recv_buf false hs hc hsome
end

/-- A mark round a piece of code at which the walk is to stand. -/
def Stand (c : Code) : Code := c
theorem stand_region (id : Nat) (ops : Array Oper) (d : Bool) : Code.region id ops d = Stand (Code.region id ops d) := rfl
theorem wp_stand {P : Program} {c : Code} {Q : Exit → Act → World → Prop} {a : Act} {w : World} (h : c.wp P Q a w) : (Stand c).wp P Q a w := h

theorem cell_setChan (w : World) (c cap : Nat) (buf : Array Value) (cl : Bool) (s r : Nat) (tm : Bool) (b o : Nat) (h : b ≠ c) :
    (w.setChan c cap buf cl s r tm).cell? ⟨b, o, none⟩ = w.cell? ⟨b, o, none⟩ := by
  simp only [World.cell?, World.setChan]
  rw [Array.getElem?_setIfInBounds_ne (fun e => h e.symm)]
theorem frozen_setChan (w : World) (c cap : Nat) (buf : Array Value) (cl : Bool) (s r : Nat) (tm : Bool) (b o : Nat) (h : b ≠ c) :
    (w.setChan c cap buf cl s r tm).frozen? ⟨b, o, none⟩ = w.frozen? ⟨b, o, none⟩ := by
  simp only [World.frozen?, World.setChan]
  rw [Array.getElem?_setIfInBounds_ne (fun e => h e.symm)]
end Go.Proofs.Ybulkdebc.Chan
