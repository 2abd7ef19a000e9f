/-
  A store into a row of the call's own; rows of entries.
-/
import Derived.Test.YbulkddveOwn
import Derived.Test.YbulkddvePlain
import Derived.Laws.Rows
import Derived.Deep.OwnRows
import Derived.Deep.QuietTactic
namespace Go.Proofs.Ybulkddve.Runs
open Go Go.RowKit Own Plain

theorem own_set {w : World} {N : Nat} {e : TypeId} {sz : Nat} {v : Value} {n : Nat} {xs : List Value} (h : w.ownsRow N e sz v n xs) {g : Nat} (hg : v.ownBlock = some g) (k : Nat) (u : Value) :
    (w.setCell ⟨g, k, none⟩ u).ownsRow N e sz v n (xs.set k u) := by
  obtain ⟨hl, hc⟩ := h
  refine ⟨by simpa using hl, ?_⟩
  rcases hc with ⟨rfl, _⟩ | ⟨g', cap, cur, rfl, hb, hh, hn, hm, hs, ht⟩
  · simp [Value.ownBlock] at hg
  · have e : g' = g := by simpa [Value.ownBlock] using hg
    subst e
    refine .inr ⟨g', cap, cur.setIfInBounds k u, rfl, hb, heap_setCell_same w g' k cur e u hh, hn, hm, by simpa using hs, ?_⟩
    rw [Array.toList_setIfInBounds, ← ht, List.take_set]

theorem rws_put {w : World} {N S : Nat} {r : Rw} {l : List Rw} (h : Rws w N S (r :: l)) {g : Nat} (hg : r.v.ownBlock = some g) (k : Nat) (u : Value) :
    Rws (w.setCell ⟨g, k, none⟩ u) N S ({ r with xs := r.xs.set k u } :: l) := by
  have hgr : w.grownBy (w.setCell ⟨g, k, none⟩ u) r.v.ownBlock := by rw [hg]; exact grownBy_set w ⟨g, k, none⟩ u
  have := h.app (v' := r.v) (n' := r.n) (xs' := r.xs.set k u) (own_set (h.own r (List.mem_cons_self ..)) hg k u) hgr (.inl rfl)
  exact this

/-- what a row's slice looks like -/
theorem own_shape {w : World} {N : Nat} {e : TypeId} {sz : Nat} {v : Value} {n : Nat} {xs : List Value} (h : w.ownsRow N e sz v n xs) :
    (v = .slice none 0 0 ∧ n = 0 ∧ xs = []) ∨ ∃ g c, v = .slice (some ⟨g, 0, none⟩) n c ∧ n ≤ c ∧ c ≤ maxLen ∧ v.ownBlock = some g ∧ g < w.heap.size ∧ N ≤ g ∧ (∀ j u, xs[j]? = some u → w.cell? ⟨g, j, none⟩ = some u) ∧ ∀ o, w.frozen? ⟨g, o, none⟩ = false := by
  have hcells := fun g hg => h.cells (g := g) hg
  obtain ⟨hl, hc⟩ := h
  rcases hc with ⟨rfl, rfl⟩ | ⟨g, cap, cur, rfl, hb, hh, hn, hm, hs, ht⟩
  · exact .inl ⟨rfl, rfl, List.length_eq_zero_iff.1 (by simpa using hl)⟩
  · refine .inr ⟨g, cap, rfl, hn, hm, rfl, (Array.getElem?_eq_some_iff.1 hh).1, hb, fun j u hj => ?_, fun o => by simp only [World.frozen?, hh]; simp⟩
    have := hcells g rfl j u hj
    have ad : (⟨g, 0, none⟩ : Addr).add j = ⟨g, j, none⟩ := by unfold Addr.add; split <;> simp_all
    rwa [ad] at this

def entC (x : Ent) : List Value := [.int .i64 (x.1 : Int), .int .i64 (x.2.1 : Int), .int .u32 0, .int .u16 0, .int .i64 (x.2.2 : Int)]
def runC (r : List Ent) : List Value := r.flatMap entC
def runR (v : Value) (r : List Ent) : Rw := ⟨38, 5, v, r.length, runC r⟩

theorem runC_length (r : List Ent) : (runC r).length = r.length * 5 := by
  induction r with
  | nil => rfl
  | cons x t ih => simp only [runC, List.flatMap_cons, List.length_append, List.length_cons] at *; rw [ih]; simp [entC]; omega
theorem runC_append (a b : List Ent) : runC (a ++ b) = runC a ++ runC b := by simp [runC]
theorem runC_get (r : List Ent) (j : Nat) (x : Ent) (h : r[j]? = some x) (i : Nat) (hi : i < 5) : (runC r)[j * 5 + i]? = (entC x)[i]? := by
  induction r generalizing j with
  | nil => simp at h
  | cons y t ih =>
    cases j with
    | zero =>
      simp at h; subst h
      simp only [runC, List.flatMap_cons, Nat.zero_mul, Nat.zero_add]
      rw [List.getElem?_append_left (by simpa [entC] using hi)]
    | succ j =>
      simp at h
      have := ih j h
      simp only [runC, List.flatMap_cons] at *
      rw [List.getElem?_append_right (by simp [entC]; omega)]
      simp only [entC, List.length_cons, List.length_nil] at *
      rw [show (j + 1) * 5 + i - (0 + 1 + 1 + 1 + 1 + 1) = j * 5 + i by omega]
      exact this
/-- an entry's first two words set -/
theorem runC_set (a : List Ent) (x : Ent) (b : List Ent) (p q : Nat) :
    ((runC (a ++ x :: b)).set (a.length * 5) (.int .i64 (p : Int))).set (a.length * 5 + 1) (.int .i64 (q : Int)) = runC (a ++ (p, q, x.2.2) :: b) := by
  have e : runC (a ++ x :: b) = runC a ++ (entC x ++ runC b) := by simp [runC]
  have e2 : runC (a ++ (p, q, x.2.2) :: b) = runC a ++ (entC (p, q, x.2.2) ++ runC b) := by simp [runC]
  have hl := runC_length a
  rw [e, e2, List.set_append_right _ _ (by omega), List.set_append_right _ _ (by omega), hl, show a.length * 5 - a.length * 5 = 0 by omega, show a.length * 5 + 1 - a.length * 5 = 1 by omega]
  simp [entC]

/-- a row of bytes -/
def bR (v : Value) (B : List Int) : Rw := ⟨5, 1, v, B.length, B.map (Value.int .u8)⟩
/-- the keySet at block S -/
structure KS (w : World) (S : Nat) (vrs vb : Value) (G : Int) : Prop where
  c0 : w.cell? ⟨S, 0, none⟩ = some vrs
  c1 : w.cell? ⟨S, 1, none⟩ = some vb
  c2 : w.cell? ⟨S, 2, none⟩ = some (.int .i64 G)
  fz : ∀ o, w.frozen? ⟨S, o, none⟩ = false
theorem KS.grown {w w' : World} {S : Nat} {vrs vb : Value} {G : Int} {row : Option Nat} (k : KS w S vrs vb G) (g : w.grownBy w' row) (lt : S < w.heap.size) (hne : some S ≠ row) : KS w' S vrs vb G := by
  have h := g.block S lt hne
  have c : ∀ o, w'.cell? ⟨S, o, none⟩ = w.cell? ⟨S, o, none⟩ := fun o => World.cell?_of_block (a := ⟨S, o, none⟩) h
  exact ⟨(c 0).trans k.c0, (c 1).trans k.c1, (c 2).trans k.c2, fun o => (World.frozen?_of_block (a := ⟨S, o, none⟩) h).trans (k.fz o)⟩
theorem KS.alloc {w : World} {S : Nat} {vrs vb : Value} {G : Int} (k : KS w S vrs vb G) (lt : S < w.heap.size) (o : Obj) : KS (w.alloc o) S vrs vb G :=
  k.grown (World.grownBy_alloc w o none) lt (by simp)
theorem KS.drewN {w : World} {S : Nat} {vrs vb : Value} {G : Int} (k : KS w S vrs vb G) (n : Nat) : KS (w.drewN n) S vrs vb G := ⟨k.c0, k.c1, k.c2, k.fz⟩
theorem rws_drewN {w : World} {N S : Nat} {l : List Rw} (h : Rws w N S l) (n : Nat) : Rws (w.drewN n) N S l := ⟨h.own, h.apart, h.noS, h.lt, h.le⟩
theorem below_grown {N : Nat} {w w' : World} {row : Option Nat} (g : w.grownBy w' row) (hN : N ≤ w.heap.size) (hrow : ∀ k, row = some k → N ≤ k) : Below N w w' :=
  ⟨g.os, g.tape, g.output, g.size, fun k hk => g.block k (by omega) (fun e => by have := hrow k e.symm; omega)⟩
end Go.Proofs.Ybulkddve.Runs
