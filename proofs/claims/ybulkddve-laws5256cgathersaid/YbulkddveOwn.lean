/-
  Several rows of the call's own, apart from each other and from one block S: what an allocation, a store into S and an append onto one of them leave of them.
-/
import Derived.Maps.AppendAt
import Derived.Laws.AppendOwnNone
import Derived.Below
namespace Go.Proofs.Ybulkddve.Own
open Go Go.RowKit

/-- a row: its elements' type, its cells an element, the slice, its length, its cells -/
structure Rw where
  e : TypeId
  sz : Nat
  v : Value
  n : Nat
  xs : List Value

def Apart (r s : Rw) : Prop := r.v.ownBlock = none ∨ r.v.ownBlock ≠ s.v.ownBlock

structure Rws (w : World) (N S : Nat) (l : List Rw) : Prop where
  own : ∀ r ∈ l, w.ownsRow N r.e r.sz r.v r.n r.xs
  apart : l.Pairwise Apart
  noS : ∀ r ∈ l, r.v.ownBlock ≠ some S
  lt : S < w.heap.size
  le : N ≤ S

theorem Apart.symm {r s : Rw} (h : Apart r s) : Apart s r := by
  unfold Apart at *
  by_cases e : s.v.ownBlock = none
  · exact .inl e
  · right
    intro h'
    rcases h with h | h
    · exact e (h'.trans h)
    · exact h h'.symm

theorem Rws.perm {w : World} {N S : Nat} {l l' : List Rw} (h : Rws w N S l) (p : l.Perm l') : Rws w N S l' :=
  ⟨fun r hr => h.own r (p.mem_iff.2 hr), (p.pairwise_iff (fun h => Apart.symm h)).1 h.apart, fun r hr => h.noS r (p.mem_iff.2 hr), h.lt, h.le⟩

theorem Rws.grown {w w' : World} {N S : Nat} {l : List Rw} {row : Option Nat} (h : Rws w N S l) (g : w.grownBy w' row) (hne : ∀ r ∈ l, r.v.ownBlock = none ∨ r.v.ownBlock ≠ row) : Rws w' N S l :=
  ⟨fun r hr => (h.own r hr).kept g (hne r hr), h.apart, h.noS, Nat.lt_of_lt_of_le h.lt g.size, h.le⟩
theorem Rws.alloc {w : World} {N S : Nat} {l : List Rw} (h : Rws w N S l) (o : Obj) : Rws (w.alloc o) N S l :=
  h.grown (World.grownBy_alloc w o none) (fun r _ => by cases hb : r.v.ownBlock with | none => exact .inl rfl | some b => exact .inr (by simp))
theorem grownBy_set (w : World) (a : Addr) (v : Value) : w.grownBy (w.setCell a v) (some a.block) :=
  ⟨rfl, rfl, rfl, by simp, fun k _ hne => Below.heap_setCell _ _ _ _ (fun e => hne (by rw [e]))⟩
theorem Rws.setS {w : World} {N S : Nat} {l : List Rw} (h : Rws w N S l) (o : Nat) (v : Value) : Rws (w.setCell ⟨S, o, none⟩ v) N S l :=
  h.grown (grownBy_set w ⟨S, o, none⟩ v) (fun r hr => .inr (h.noS r hr))

/-- an append onto the first row -/
theorem Rws.app {w w' : World} {N S : Nat} {r : Rw} {l : List Rw} (h : Rws w N S (r :: l)) {v' : Value} {n' : Nat} {xs' : List Value}
    (hown : w'.ownsRow N r.e r.sz v' n' xs') (hg : w.grownBy w' r.v.ownBlock) (hat : v'.ownBlock = r.v.ownBlock ∨ v'.ownBlock = some w.heap.size) :
    Rws w' N S ({ r with v := v', n := n', xs := xs' } :: l) := by
  obtain ⟨ha, hp⟩ := List.pairwise_cons.1 h.apart
  have hl : ∀ s ∈ l, s.v.ownBlock = none ∨ s.v.ownBlock ≠ r.v.ownBlock := fun s hs => Apart.symm (ha s hs)
  have lts : ∀ s ∈ r :: l, s.v.ownBlock ≠ some w.heap.size := fun s hs e => by
    have := ((h.own s hs).lt _ e).2
    omega
  refine ⟨?_, ?_, ?_, Nat.lt_of_lt_of_le h.lt hg.size, h.le⟩
  · intro s hs
    rcases List.mem_cons.1 hs with rfl | hs
    · exact hown
    · exact (h.own s (List.mem_cons_of_mem _ hs)).kept hg (hl s hs)
  · refine List.pairwise_cons.2 ⟨fun s hs => ?_, hp⟩
    rcases hat with e | e
    · rcases ha s hs with h1 | h1
      · exact .inl (e.trans h1)
      · exact .inr (by simpa [e] using h1)
    · right
      simp only [e]
      exact fun h2 => lts s (List.mem_cons_of_mem _ hs) h2.symm
  · intro s hs
    rcases List.mem_cons.1 hs with rfl | hs
    · rcases hat with e | e
      · simp only [e]; exact h.noS r (List.mem_cons_self ..)
      · simp only [e]
        have := h.lt
        intro h3
        injection h3 with h3
        omega
    · exact h.noS s (List.mem_cons_of_mem _ hs)
theorem Rws.tail {w : World} {N S : Nat} {r : Rw} {l : List Rw} (h : Rws w N S (r :: l)) : Rws w N S l :=
  ⟨fun s hs => h.own s (List.mem_cons_of_mem _ hs), (List.pairwise_cons.1 h.apart).2, fun s hs => h.noS s (List.mem_cons_of_mem _ hs), h.lt, h.le⟩
theorem Rws.nil {w : World} {N S : Nat} {l : List Rw} (h : Rws w N S l) (e : TypeId) (sz : Nat) : Rws w N S (⟨e, sz, .slice none 0 0, 0, []⟩ :: l) :=
  ⟨fun s hs => by
      rcases List.mem_cons.1 hs with rfl | hs
      · exact World.ownsRow_nil w N e sz
      · exact h.own s hs,
    List.pairwise_cons.2 ⟨fun _ _ => .inl rfl, h.apart⟩,
    fun s hs => by
      rcases List.mem_cons.1 hs with rfl | hs
      · simp [Value.ownBlock]
      · exact h.noS s hs, h.lt, h.le⟩

/-- a source of an append: nil, or cells that lie there -/
def Src (w : World) (sz : Nat) (x : Value) (m : Nat) (ys : List Value) : Prop :=
  ys.length = m * sz ∧ (∀ u ∈ ys, u.oneCell' = true) ∧ ((x = .slice none 0 0 ∧ m = 0) ∨ ∃ ad c, x = .slice (some ad) m c ∧ ∀ j u, ys[j]? = some u → w.cell? (ad.add j) = some u)

section
variable {P : Program} {w : World}
/-- an append onto the first row, from whatever source, at the operation -/
theorem wpList_app {ops : Array Oper} {rest : List Oper} {o : Oper} {a : Act} {Q : Exit → Act → World → Prop} (hgd : o.guard = none) (s x : Operand) (t : TypeId)
    (ho : o.op = .call { callee := .builtin .append, args := #[s, x], argTypes := #[t, t] })
    (N S : Nat) (e : TypeId) (i : TypeInfo) (z : Value) (sz bytes : Nat) (ht : P.underlying t = some (.slice e)) (hi : P.info? e = some i) (hz : i.zero = some z)
    (hsize : i.size = sz) (hby : i.bytes = bytes) (hzs : z.cells.size = sz) (hsz : 0 < sz)
    (v : Value) (n : Nat) (xs : List Value) (l : List Rw) (hs : a.eval s = v) (hrows : Rws w N S (⟨e, sz, v, n, xs⟩ :: l))
    (u : Value) (m : Nat) (ys : List Value) (hx : a.eval x = u) (hsrc : Src w sz u m ys)
    (h63 : n + m ≤ maxLen) (hbytes : (n + m) * bytes ≤ 140737488355328)
    (h : ∀ v' w', Rws w' N S (⟨e, sz, v', n + m, xs ++ ys⟩ :: l) → w.grownBy w' v.ownBlock → wpList P ops Q rest (a.put o.dst v') w') :
    wpList P ops Q (o :: rest) a w := by
  have hown : w.ownsRow N e sz v n xs := hrows.own _ (List.mem_cons_self ..)
  obtain ⟨hl, h1, hcase⟩ := hsrc
  rcases hcase with ⟨rfl, rfl⟩ | ⟨ad, c, rfl, hnews⟩
  · have hy : ys = [] := List.length_eq_zero_iff.1 (by simpa using hl)
    subst hy
    refine wpList_append_own_none hgd s x t ho N e i sz ht hi v n xs hs hown hx ?_
    refine h v w (by simpa using hrows) ?_
    exact ⟨rfl, rfl, rfl, Nat.le_refl _, fun _ _ _ => rfl⟩
  · refine wpList_append_own_at w hgd s x t ho N e i z sz bytes ht hi hz hsize hby hzs hsz v n xs hs hown ad m c ys hx hl hnews h1 h63 hbytes (Nat.le_of_lt (Nat.lt_of_le_of_lt hrows.le hrows.lt)) ?_
    intro v' w' ho' hg hnil hat
    exact h v' w' (hrows.app ho' hg hat) hg
end
end Go.Proofs.Ybulkddve.Own
