/-
  For the walk of the law: the frame round the set, the keys that came in, what a round of the filling loop does to the plain lists.
-/
import Derived.Test.YbulkddveGath
namespace Go.Proofs.Ybulkddve.Law
open Go.ChangeShapes Go.WideShapes Go.ChangeAt Go.RowKit Own Plain Parts Runs Gather
set_option maxRecDepth 100000
/-- as 'Lies', or empty at whatever place -/
def LiesW (w : World) (v : Value) (xs : List Int) : Prop := Lies w v xs ∨ ∃ a c, v = .slice (some a) 0 c ∧ xs = []

theorem convert_liesW {w : World} {v : Value} {xs : List Int} (h : LiesW w v xs) : (convert 23 9 v).run Yba.prog w = .ok (.string (strOfNums xs)) w := by
  rcases h with h | ⟨a, c, rfl, rfl⟩
  · exact convert_lies h
  · kernel_rfl

theorem equal_sameW (v u : Value) (xs : List Int) (w : World) (hv : Lies w v xs) (hu : LiesW w u xs) :
    Calls Yba.prog 6 #[v, u] w fun e w' => e = .returned (.bool true) ∧ w' = w := by
  have h1 := convert_lies hv
  have h2 := convert_liesW hu
  go_enter Yba.func6, Yba.ntmps6
  go_wp2
  go_ret
  exact ⟨rfl, rfl⟩

/-- one key of the input: the slice, its bytes, the stale bytes' count, the cut -/
structure Kd where
  v : Value
  xs : List Int
  q : Int
  c : Bool

structure KeyAt (w : World) (b off i : Nat) (d : Kd) : Prop where
  q0 : 0 ≤ d.q
  q1 : d.q ≤ 255
  c0 : w.cell? ⟨b, off + i * 3, none⟩ = some d.v
  c1 : w.cell? ⟨b, off + i * 3 + 1, none⟩ = some (.int .u8 d.q)
  c2 : w.cell? ⟨b, off + i * 3 + 2, none⟩ = some (.bool d.c)
  lies : LiesW w d.v d.xs

theorem lies_below {w w' : World} {v : Value} {xs : List Int} (h : LiesW w v xs) (hb : Below w.heap.size w w') : LiesW w' v xs := by
  rcases h with (h | ⟨b, off, c, rfl, hc⟩) | h
  · exact .inl (.inl h)
  rotate_left
  · exact .inr h
  · refine .inl <| .inr ⟨b, off, c, rfl, fun i hi => ?_⟩
    have := hc i hi
    exact (hb.cell (p := ⟨b, _, none⟩) (World.block_lt_of_cell? w _ this)).trans this

theorem lies_shape {w : World} {v : Value} {xs : List Int} (h : LiesW w v xs) : ∃ a c, v = .slice a xs.length c := by
  rcases h with (⟨rfl, rfl⟩ | ⟨b, off, c, rfl, _⟩) | ⟨a, c, rfl, rfl⟩
  · exact ⟨none, 0, rfl⟩
  · exact ⟨_, _, rfl⟩
  · exact ⟨_, _, rfl⟩

theorem lies_src {w : World} {v : Value} {xs : List Int} (h : LiesW w v xs) : Src w 1 v xs.length (xs.map (Value.int .u8)) := by
  refine ⟨by simp, one_u8 _, ?_⟩
  rcases h with (⟨rfl, rfl⟩ | ⟨b, off, c, rfl, hc⟩) | ⟨a, c, rfl, rfl⟩
  · exact .inl ⟨rfl, rfl⟩
  rotate_left
  · exact .inr ⟨a, c, rfl, fun j u hj => by simp at hj⟩
  · refine .inr ⟨⟨b, off, none⟩, c, rfl, fun j u hj => ?_⟩
    rw [List.getElem?_map] at hj
    obtain ⟨y, hy, rfl⟩ := Option.map_eq_some_iff.1 hj
    obtain ⟨hl, rfl⟩ := List.getElem?_eq_some_iff.1 hy
    rw [addr_add, hc j hl]
    simp [List.getD_eq_getElem?_getD, hl]

theorem keyAt_below {w w' : World} {b off i : Nat} {d : Kd} (h : KeyAt w b off i d) (hb : Below w.heap.size w w') : KeyAt w' b off i d := by
  have lt : b < w.heap.size := by
    have := World.block_lt_of_cell? w _ h.c0
    exact this
  exact ⟨h.q0, h.q1, (hb.cell (p := ⟨b, _, none⟩) lt).trans h.c0, (hb.cell (p := ⟨b, _, none⟩) lt).trans h.c1, (hb.cell (p := ⟨b, _, none⟩) lt).trans h.c2, lies_below h.lies hb⟩

/-- the set at S, the rows, and what was there before -/
structure Fr (w : World) (N S : Nat) (vrs vb : Value) (G : Nat) (l : List Rw) (wr : World) : Prop where
  ks : KS wr S vrs vb (G : Int)
  rows : Rws wr N S l
  below : Below N w wr

section
variable {w : World} {N S : Nat} {vrs vb : Value} {G : Nat} {l : List Rw} {wr : World}
theorem Fr.hN (h : Fr w N S vrs vb G l wr) : N ≤ wr.heap.size := Nat.le_of_lt (Nat.lt_of_le_of_lt h.rows.le h.rows.lt)
theorem Fr.alloc (h : Fr w N S vrs vb G l wr) (o : Obj) : Fr w N S vrs vb G l (wr.alloc o) :=
  ⟨h.ks.alloc h.rows.lt o, h.rows.alloc o, h.below.alloc h.hN o⟩
theorem Fr.drewN (h : Fr w N S vrs vb G l wr) (n : Nat) : Fr w N S vrs vb G l (wr.drewN n) :=
  ⟨h.ks.drewN n, rws_drewN h.rows n, h.below.trans ⟨rfl, rfl, rfl, Nat.le_refl _, fun _ _ => rfl⟩⟩
theorem Fr.perm {l' : List Rw} (h : Fr w N S vrs vb G l wr) (p : l.Perm l') : Fr w N S vrs vb G l' wr := ⟨h.ks, h.rows.perm p, h.below⟩
theorem Fr.nil (h : Fr w N S vrs vb G l wr) (e : TypeId) (sz : Nat) : Fr w N S vrs vb G (⟨e, sz, .slice none 0 0, 0, []⟩ :: l) wr := ⟨h.ks, h.rows.nil e sz, h.below⟩
theorem Fr.app {r r' : Rw} {w3 : World} (h : Fr w N S vrs vb G (r :: l) wr) (hr : Rws w3 N S (r' :: l)) (hg : wr.grownBy w3 r.v.ownBlock) : Fr w N S vrs vb G (r' :: l) w3 :=
  ⟨h.ks.grown hg h.rows.lt (fun e => h.rows.noS r (List.mem_cons_self ..) e.symm), hr, h.below.trans (below_grown hg h.hN (fun k e => ((h.rows.own r (List.mem_cons_self ..)).lt k e).1))⟩
theorem Fr.set0 {u : Value} (h : Fr w N S vrs vb G l wr) : Fr w N S u vb G l (wr.setCell ⟨S, 0, none⟩ u) := by
  have k := h.ks
  have c0 := k.c0; have c1 := k.c1; have c2 := k.c2; have fz := k.fz
  refine ⟨⟨?_, ?_, ?_, fun o => ?_⟩, h.rows.setS 0 u, h.below.setCell (p := ⟨S, 0, none⟩) h.rows.le _⟩
  · simp [go_sem, c0]
  · simp [go_sem, c1]
  · simp [go_sem, c2]
  · simp [go_sem, fz]
theorem Fr.set1 {u : Value} (h : Fr w N S vrs vb G l wr) : Fr w N S vrs u G l (wr.setCell ⟨S, 1, none⟩ u) := by
  have k := h.ks
  have c0 := k.c0; have c1 := k.c1; have c2 := k.c2; have fz := k.fz
  refine ⟨⟨?_, ?_, ?_, fun o => ?_⟩, h.rows.setS 1 u, h.below.setCell (p := ⟨S, 1, none⟩) h.rows.le _⟩
  · simp [go_sem, c0]
  · simp [go_sem, c1]
  · simp [go_sem, c2]
  · simp [go_sem, fz]
theorem Fr.set2 {u : Nat} (h : Fr w N S vrs vb G l wr) : Fr w N S vrs vb u l (wr.setCell ⟨S, 2, none⟩ (.int .i64 (u : Int))) := by
  have k := h.ks
  have c0 := k.c0; have c1 := k.c1; have c2 := k.c2; have fz := k.fz
  refine ⟨⟨?_, ?_, ?_, fun o => ?_⟩, h.rows.setS 2 _, h.below.setCell (p := ⟨S, 2, none⟩) h.rows.le _⟩
  · simp [go_sem, c0]
  · simp [go_sem, c1]
  · simp [go_sem, c2]
  · simp [go_sem, fz]
theorem Fr.shape {r : Rw} (h : Fr w N S vrs vb G l wr) (hm : r ∈ l) : ∃ a c, r.v = .slice a r.n c := by
  rcases own_shape (h.rows.own r hm) with ⟨h1, h2, _⟩ | ⟨g, c, h1, _⟩
  · exact ⟨none, 0, by rw [h1, h2]⟩
  · exact ⟨_, _, h1⟩
theorem Fr.start (wr : World) (hb : Below N w wr) (hN : N ≤ wr.heap.size) :
    Fr w N wr.heap.size (.slice none 0 0) (.slice none 0 0) 0 [] (wr.alloc (.cells #[.slice none 0 0, .slice none 0 0, .int .i64 0] 28)) := by
  refine ⟨⟨by simp [go_sem], by simp [go_sem], by simp [go_sem], fun o => by simp [go_sem]⟩, ⟨by simp, List.Pairwise.nil, by simp, by simp, hN⟩, hb.alloc hN _⟩
end

theorem src_one (w : World) (u : Value) (t : TypeId) (h : u.oneCell' = true) : Src (w.alloc (.cells #[u] t)) 1 (.slice (some ⟨w.heap.size, 0, none⟩) 1 1) 1 [u] := by
  refine ⟨rfl, by simpa using h, .inr ⟨_, _, rfl, fun j x hj => ?_⟩⟩
  match j with
  | 0 => simp at hj; subst hj; simp [go_sem, addr_add]
  | n + 1 => simp at hj
theorem src_ent (w : World) (x : Ent) : Src (w.alloc (entO x)) 5 (.slice (some ⟨w.heap.size, 0, none⟩) 1 1) 1 (entC x) := by
  refine ⟨rfl, by simp [entC, Value.oneCell'], .inr ⟨_, _, rfl, fun j u hj => ?_⟩⟩
  match j with
  | 0 => simp [entC] at hj; subst hj; simp [go_sem, addr_add, entO]
  | 1 => simp [entC] at hj; subst hj; simp [go_sem, addr_add, entO]
  | 2 => simp [entC] at hj; subst hj; simp [go_sem, addr_add, entO]
  | 3 => simp [entC] at hj; subst hj; simp [go_sem, addr_add, entO]
  | 4 => simp [entC] at hj; subst hj; simp [go_sem, addr_add, entO]
  | n + 5 => simp [entC] at hj

/-- the plain side, behind k keys -/
structure Pl (K : List Kd) (k : Nat) (B : List Int) (G : Nat) (W : List Int) (es : List Ent) : Prop where
  len : es.length = k
  ent : ∀ (i : Nat) (x : Ent), es[i]? = some x → In B x ∧ x.2.2 = i + 1 ∧ ∃ d, K[i]? = some d ∧ cut1 B x = d.xs
  w : W = getB B es
  bg : B.length = G + W.length
  bound : B.length ≤ k * 1027

theorem cut1_append (B Y : List Int) (x : Ent) (h : In B x) : cut1 (B ++ Y) x = cut1 B x := by
  obtain ⟨h1, h2⟩ := h
  unfold cut1 len1
  rw [List.drop_append_of_le_length (by omega), List.take_append_of_le_length (by simp; omega)]

theorem getB_more (B Y : List Int) (es : List Ent) (h : ∀ x ∈ es, In B x) : getB (B ++ Y) es = getB B es := by
  unfold getB
  induction es with
  | nil => rfl
  | cons x t ih =>
    simp only [List.flatMap_cons]
    rw [cut1_append B Y x (h x (List.mem_cons_self ..)), ih (fun y hy => h y (List.mem_cons_of_mem _ hy))]

theorem Pl.start (K : List Kd) : Pl K 0 [] 0 [] [] := ⟨rfl, by simp, rfl, rfl, by simp⟩

theorem Pl.allIn {K : List Kd} {k : Nat} {B : List Int} {G : Nat} {W : List Int} {es : List Ent} (h : Pl K k B G W es) : ∀ x ∈ es, In B x := fun x hx => by
  obtain ⟨i, hi⟩ := List.getElem?_of_mem hx
  exact (h.ent i x hi).1

theorem Pl.step {K : List Kd} {k : Nat} {B : List Int} {G : Nat} {W : List Int} {es : List Ent} (h : Pl K k B G W es) {d : Kd} (hd : K[k]? = some d) (hs : d.xs.length ≤ 1024) (p : Nat) (hp : p ≤ 3) :
    Pl K (k + 1) ((B ++ List.replicate p 238) ++ d.xs) (G + p) (W ++ d.xs) (es ++ [((B ++ List.replicate p 238).length, (B ++ List.replicate p 238).length + d.xs.length, k + 1)]) := by
  have hl := h.len
  have hbg := h.bg
  have hbd := h.bound
  have hc : cut1 ((B ++ List.replicate p 238) ++ d.xs) ((B ++ List.replicate p 238).length, (B ++ List.replicate p 238).length + d.xs.length, k + 1) = d.xs := by
    unfold cut1 len1
    simp only [Nat.add_sub_cancel_left]
    rw [List.drop_left]
    exact List.take_length
  refine ⟨by simp [hl], ?_, ?_, by simp; omega, by simp; omega⟩
  · intro i x hx
    by_cases hi : i < k
    · rw [List.getElem?_append_left (by omega)] at hx
      obtain ⟨a1, a2, d', a3, a4⟩ := h.ent i x hx
      refine ⟨⟨a1.1, ?_⟩, a2, d', a3, ?_⟩
      · have := a1.2
        simp; omega
      · rw [List.append_assoc, cut1_append _ _ _ a1, a4]
    · rw [List.getElem?_append_right (by omega), hl] at hx
      have : i - k = 0 := by
        rcases Nat.eq_zero_or_pos (i - k) with h0 | h0
        · exact h0
        · obtain ⟨m, hm⟩ : ∃ m, i - k = m + 1 := ⟨i - k - 1, by omega⟩
          rw [hm] at hx
          simp at hx
      have hik : i = k := by omega
      subst hik
      rw [this] at hx
      simp only [List.getElem?_cons_zero, Option.some.injEq] at hx
      subst hx
      exact ⟨⟨by dsimp only; omega, by dsimp only; simp; omega⟩, rfl, d, hd, hc⟩
  · rw [getB_append, List.append_assoc, getB_more B _ es h.allIn, ← h.w]
    congr 1
    rw [← List.append_assoc]
    simp only [getB, List.flatMap_cons, List.flatMap_nil, List.append_nil]
    exact hc.symm
end Go.Proofs.Ybulkddve.Law
