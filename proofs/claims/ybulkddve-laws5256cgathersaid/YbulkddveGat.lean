/-
  For the walk of gather: make, key by the row of bytes, the stores into a run.
-/
import Derived.Test.YbulkddveParts
import Derived.Test.YbulkddveRuns
namespace Go.Proofs.Ybulkddve.Gather
open Go.ChangeShapes Go.WideShapes Go.ChangeAt Go.RowKit Own Plain Parts Runs
set_option maxRecDepth 100000

theorem make23 (T : Nat) (h : T ≤ 4194304) (w : World) : (Instr.makeSlice 23 (.int .i64 0) (.int .i64 (T : Int))).run Yba.prog w = .ok (.slice (some ⟨w.heap.size, 0, none⟩) 0 T) (w.alloc (.cells (madeCells #[.int .u8 0] T) 5)) := by
  obtain ⟨i, hi, hz, hsz, hby⟩ := info5
  have hr := run_make (P := Yba.prog) w 23 5 i (.int .u8 0) Yba.underlying23 hi hz .i64 .i64 0 T (by omega) (by omega) (by rw [hby]; omega) (by omega)
  simp [hsz] at hr
  exact hr

theorem addr_add (g j : Nat) : ∀ o, (⟨g, o, none⟩ : Addr).add j = ⟨g, o + j, none⟩ := fun o => by unfold Addr.add; split <;> simp_all

theorem src_alloc {w : World} {sz m : Nat} {x : Value} {ys : List Value} (h : Src w sz x m ys) (o : Obj) : Src (w.alloc o) sz x m ys := by
  obtain ⟨h1, h2, h3⟩ := h
  refine ⟨h1, h2, ?_⟩
  rcases h3 with h3 | ⟨ad, c, rfl, hc⟩
  · exact .inl h3
  · exact .inr ⟨ad, c, rfl, fun j u hj => by
      have := hc j u hj
      exact ((World.grownBy_alloc w o none).cell this (by simp))⟩
theorem src_drewN {w : World} {sz m : Nat} {x : Value} {ys : List Value} (h : Src w sz x m ys) (n : Nat) : Src (w.drewN n) sz x m ys := h

theorem one_u8 (l : List Int) : ∀ u ∈ l.map (Value.int .u8), u.oneCell' = true := fun u hu => by
  simp at hu; obtain ⟨y, _, rfl⟩ := hu; rfl

/-- the entry as a value -/
def entV (x : Ent) : Value := .agg #[.int .i64 (x.1 : Int), .int .i64 (x.2.1 : Int), .int .u32 0, .int .u16 0, .int .i64 (x.2.2 : Int)]
def entO (x : Ent) : Obj := .cells #[.int .i64 (x.1 : Int), .int .i64 (x.2.1 : Int), .int .u32 0, .int .u16 0, .int .i64 (x.2.2 : Int)] 38

theorem key_any (w : World) (N S : Nat) (vb : Value) (B : List Int) (x : Ent) (hown : w.ownsRow N 5 1 vb B.length (B.map (Value.int .u8))) (c1 : w.cell? ⟨S, 1, none⟩ = some vb) (lt : S < w.heap.size) (hin : In B x) :
    Calls Yba.prog 7 #[.pointer (some ⟨S, 0, none⟩), entV x] w fun e w' => ∃ u, e = .returned u ∧ Src w' 1 u (len1 x) ((cut1 B x).map (Value.int .u8)) ∧ ∃ nq, w' = (w.alloc (entO x)).drewN nq := by
  obtain ⟨a, en, d⟩ := x
  obtain ⟨h1, h2⟩ := hin
  dsimp only at h1 h2
  have hlen : ((cut1 B (a, en, d)).map (Value.int .u8)).length = (en - a) * 1 := by
    have := cut1_length (B := B) (x := (a, en, d)) ⟨h1, h2⟩
    simpa [len1] using this
  rcases own_shape hown with ⟨rfl, h0, _⟩ | ⟨g, c, rfl, hc, hcm, hob, hg, hNg, hcells, hfz⟩
  · have ha : a = 0 := by omega
    have he : en = 0 := by omega
    subst ha he
    refine (key_nil S 0 0 d w c1 lt).mono fun e w' ⟨nq, he, hw⟩ => ⟨_, he, ⟨hlen, one_u8 _, .inl ⟨rfl, rfl⟩⟩, nq, hw⟩
  · refine (key_some S g B.length c a en 0 0 d w c1 lt h1 h2 hc).mono fun e w' ⟨o, he, ho, nq, hw⟩ => ⟨_, he, ?_, nq, hw⟩
    rw [hw]
    refine src_drewN (src_alloc ⟨hlen, one_u8 _, .inr ⟨⟨g, o, none⟩, en - a, rfl, fun j u hj => ?_⟩⟩ _) nq
    have hj' : j < en - a := by
      have := (List.getElem?_eq_some_iff.1 hj).1
      omega
    rw [addr_add, ho (by omega)]
    apply hcells
    rw [← hj]
    simp only [cut1, len1, List.getElem?_map, List.getElem?_take, List.getElem?_drop]
    rw [if_pos hj']

theorem zip_split (vs : List Value) (R : List (List Ent)) (v : Value) (r : List Ent) (i : Nat) (hv : vs[i]? = some v) (hr : R[i]? = some r) :
    List.zipWith runR (vs.drop i) (R.drop i) = runR v r :: List.zipWith runR (vs.drop (i + 1)) (R.drop (i + 1)) := by
  obtain ⟨h1, rfl⟩ := List.getElem?_eq_some_iff.1 hv
  obtain ⟨h2, rfl⟩ := List.getElem?_eq_some_iff.1 hr
  rw [List.drop_eq_getElem_cons h1, List.drop_eq_getElem_cons h2]
  rfl

/-- the rows at a place inside the loops: what is gathered; the old bytes; the runs; the others; the runs done, the run in hand, the runs to come -/
def rowsAt (vg : Value) (gl : List Int) (vb : Value) (B : List Int) (vrs : Value) (vs : List Value) (l0 done todo : List Rw) (v : Value) (r : List Ent) : List Rw :=
  bR vg gl :: bR vb B :: ⟨29, 1, vrs, vs.length, vs⟩ :: (l0 ++ (done ++ runR v r :: todo))

/-- the two stores into the run in hand -/
theorem put_run {w : World} {N S : Nat} {vg : Value} {gl : List Int} {vb : Value} {B : List Int} {vrs : Value} {vs : List Value} {l0 done todo : List Rw} {v : Value} {a b : List Ent} {x : Ent}
    (h : Rws w N S (rowsAt vg gl vb B vrs vs l0 done todo v (a ++ x :: b))) {g : Nat} (hg : v.ownBlock = some g) (p q : Nat) :
    Rws ((w.setCell ⟨g, a.length * 5, none⟩ (.int .i64 (p : Int))).setCell ⟨g, a.length * 5 + 1, none⟩ (.int .i64 (q : Int))) N S (rowsAt vg gl vb B vrs vs l0 done todo v (a ++ (p, q, x.2.2) :: b)) := by
  have pm : ∀ r, (rowsAt vg gl vb B vrs vs l0 done todo v r).Perm (runR v r :: (bR vg gl :: bR vb B :: ⟨29, 1, vrs, vs.length, vs⟩ :: (l0 ++ (done ++ todo)))) := fun r => by
    unfold rowsAt
    have : bR vg gl :: bR vb B :: ⟨29, 1, vrs, vs.length, vs⟩ :: (l0 ++ (done ++ runR v r :: todo)) = (bR vg gl :: bR vb B :: ⟨29, 1, vrs, vs.length, vs⟩ :: (l0 ++ done)) ++ runR v r :: todo := by simp
    rw [this]
    refine List.perm_middle.trans ?_
    simp
  have h1 := h.perm (pm _)
  have h2 := rws_put h1 (g := g) hg (a.length * 5) (.int .i64 (p : Int))
  have h3 := rws_put h2 (g := g) hg (a.length * 5 + 1) (.int .i64 (q : Int))
  refine Rws.perm (l := runR v (a ++ (p, q, x.2.2) :: b) :: (bR vg gl :: bR vb B :: ⟨29, 1, vrs, vs.length, vs⟩ :: (l0 ++ (done ++ todo)))) ?_ (pm _).symm
  have e : runR v (a ++ (p, q, x.2.2) :: b) = { runR v (a ++ x :: b) with xs := ((runC (a ++ x :: b)).set (a.length * 5) (.int .i64 (p : Int))).set (a.length * 5 + 1) (.int .i64 (q : Int)) } := by
    rw [runC_set]
    simp [runR]
  rw [e]
  exact h3
end Go.Proofs.Ybulkddve.Gather
