/-
  The walk of gather (func 5).
-/
import Derived.Test.YbulkddveGat
import Derived.RegionTactic
import Derived.BigRegion
namespace Go.Proofs.Ybulkddve.Gather
open Go.ChangeShapes Go.WideShapes Go.ChangeAt Go.RowKit Own Plain Parts Runs
set_option maxRecDepth 100000

theorem hide_of {p : Prop} (h : p) : Hid p := h

/-- what holds at the head of the outer loop, behind i runs -/
structure Out (w : World) (N S : Nat) (vrs vb : Value) (B : List Int) (G : Int) (vs : List Value) (R : List (List Ent)) (l0 : List Rw) (i : Nat) (vg : Value) (wr : World) : Prop where
  ks : KS wr S vrs vb G
  rows : Rws wr N S (bR vg (getB B (R.take i).flatten) :: bR vb B :: ⟨29, 1, vrs, vs.length, vs⟩ :: (l0 ++ (List.zipWith runR (vs.take i) (reb 0 (R.take i)) ++ List.zipWith runR (vs.drop i) (R.drop i))))
  below : Below N w wr

theorem out_start {w : World} {N S : Nat} {vrs vb : Value} {B : List Int} {G : Int} {vs : List Value} {R : List (List Ent)} {l0 : List Rw} (T n : Nat) (hT : T ≤ 4194304)
    (ks : KS w S vrs vb G) (hrows : Rws w N S (bR vb B :: ⟨29, 1, vrs, vs.length, vs⟩ :: (l0 ++ List.zipWith runR vs R))) :
    Out w N S vrs vb B G vs R l0 0 (.slice (some ⟨w.heap.size, 0, none⟩) 0 T) ((w.alloc (.cells (madeCells #[.int .u8 0] T) 5)).drewN n) := by
  have hN : N ≤ w.heap.size := Nat.le_of_lt (Nat.lt_of_le_of_lt hrows.le hrows.lt)
  refine ⟨(ks.alloc hrows.lt _).drewN n, rws_drewN ?_ n, ?_⟩
  · have h0 := (hrows.nil 5 1).alloc (.cells (madeCells #[.int .u8 0] T) 5)
    have hown : (w.alloc (.cells (madeCells #[.int .u8 0] T) 5)).ownsRow N 5 1 (.slice (some ⟨w.heap.size, 0, none⟩) 0 T) 0 [] :=
      World.ownsRow_made w _ T hN (by unfold maxLen; omega) (by simp [madeCells])
    have h1 : Rws w N S (⟨5, 1, .slice none 0 0, 0, []⟩ :: bR vb B :: ⟨29, 1, vrs, vs.length, vs⟩ :: (l0 ++ List.zipWith runR vs R)) := hrows.nil 5 1
    have h2 := h1.app (w' := w.alloc (.cells (madeCells #[.int .u8 0] T) 5)) (v' := .slice (some ⟨w.heap.size, 0, none⟩) 0 T) (n' := 0) (xs' := []) hown (World.grownBy_alloc w _ _) (.inr rfl)
    simpa [bR, getB, reb] using h2
  · exact ((Below.refl N w).alloc hN _).trans ⟨rfl, rfl, rfl, Nat.le_refl _, fun _ _ => rfl⟩


theorem run_at {w : World} {N S : Nat} {ar : Option Addr} {cr : Nat} {vb : Value} {B : List Int} {G : Int} {vs : List Value} {R : List (List Ent)} {l0 : List Rw} {i : Nat} {vg : Value} {wr : World}
    (h : Out w N S (.slice ar vs.length cr) vb B G vs R l0 i vg wr) (hlen : vs.length = R.length) (hi : i < vs.length) :
    ∃ v r g, vs[i]? = some v ∧ R[i]? = some r ∧ ar = some ⟨g, 0, none⟩ ∧ wr.cell? ⟨g, i, none⟩ = some v ∧ ∃ av cv, v = .slice av r.length cv := by
  have hi2 : i < R.length := by omega
  refine ⟨vs[i], R[i], ?_⟩
  have hv : vs[i]? = some vs[i] := List.getElem?_eq_getElem hi
  have hr : R[i]? = some R[i] := List.getElem?_eq_getElem hi2
  have hsh : ∃ av cv, vs[i] = .slice av R[i].length cv := by
    have hm : runR vs[i] R[i] ∈ bR vg (getB B (R.take i).flatten) :: bR vb B :: ⟨29, 1, .slice ar vs.length cr, vs.length, vs⟩ :: (l0 ++ (List.zipWith runR (vs.take i) (reb 0 (R.take i)) ++ List.zipWith runR (vs.drop i) (R.drop i))) := by
      rw [zip_split vs R _ _ i hv hr]; simp
    rcases own_shape (h.rows.own _ hm) with ⟨h1, h2, _⟩ | ⟨g, c, h1, _⟩
    · have h1' : vs[i] = .slice none 0 0 := h1
      have h2' : R[i].length = 0 := h2
      exact ⟨none, 0, by rw [h1', h2']⟩
    · exact ⟨_, _, h1⟩
  rcases own_shape (h.rows.own ⟨29, 1, .slice ar vs.length cr, vs.length, vs⟩ (by simp)) with ⟨_, h2, _⟩ | ⟨g, c, h1, _, _, _, _, _, hc, _⟩
  · have h2' : vs.length = 0 := h2
    omega
  · have h1' : (Value.slice ar vs.length cr) = .slice (some ⟨g, 0, none⟩) vs.length c := h1
    injection h1' with e1
    exact ⟨g, hv, hr, e1, hc i _ hv, hsh⟩

/-- the inner loop's -/
structure Inn (w : World) (N S : Nat) (vrs vb : Value) (B : List Int) (G : Int) (vs : List Value) (R : List (List Ent)) (l0 : List Rw) (i : Nat) (v : Value) (r : List Ent) (j : Nat) (vg : Value) (wr : World) : Prop where
  ks : KS wr S vrs vb G
  rows : Rws wr N S (rowsAt vg (getB B ((R.take i).flatten ++ r.take j)) vb B vrs vs l0 (List.zipWith runR (vs.take i) (reb 0 (R.take i))) (List.zipWith runR (vs.drop (i + 1)) (R.drop (i + 1))) v (rebR (lenR (R.take i).flatten) (r.take j) ++ r.drop j))
  below : Below N w wr

section
variable {w : World} {N S : Nat} {vrs vb : Value} {B : List Int} {G : Int} {vs : List Value} {R : List (List Ent)} {l0 : List Rw} {i : Nat} {v : Value} {r : List Ent} {vg : Value} {wr : World}
theorem inn_start (h : Out w N S vrs vb B G vs R l0 i vg wr) (hv : vs[i]? = some v) (hr : R[i]? = some r) : Inn w N S vrs vb B G vs R l0 i v r 0 vg wr := by
  refine ⟨h.ks, ?_, h.below⟩
  have := h.rows
  rw [zip_split vs R v r i hv hr] at this
  simpa [rowsAt, rebR] using this

theorem inn_end (h : Inn w N S vrs vb B G vs R l0 i v r r.length vg wr) (hv : vs[i]? = some v) (hr : R[i]? = some r) (hlen : vs.length = R.length) : Out w N S vrs vb B G vs R l0 (i + 1) vg wr := by
  refine ⟨h.ks, ?_, h.below⟩
  have := h.rows
  obtain ⟨h1, e1⟩ := List.getElem?_eq_some_iff.1 hv
  obtain ⟨h2, e2⟩ := List.getElem?_eq_some_iff.1 hr
  have t1 : vs.take (i + 1) = vs.take i ++ [v] := by rw [List.take_add_one, hv]; rfl
  have t2 : R.take (i + 1) = R.take i ++ [r] := by rw [List.take_add_one, hr]; rfl
  have z : List.zipWith runR (vs.take (i + 1)) (reb 0 (R.take (i + 1))) = List.zipWith runR (vs.take i) (reb 0 (R.take i)) ++ [runR v (rebR (lenR (R.take i).flatten) r)] := by
    rw [t1, t2, reb_append, List.zipWith_append (by simp [reb_length]; omega)]
    simp [reb]
  rw [z, t2]
  simpa [rowsAt] using this

theorem ent_at {j : Nat} (h : Inn w N S vrs vb B G vs R l0 i v r j vg wr) (hj : j < r.length) :
    ∃ x g c, r[j]? = some x ∧ v = .slice (some ⟨g, 0, none⟩) r.length c ∧ v.ownBlock = some g ∧ (∀ k u, (entC x)[k]? = some u → wr.cell? ⟨g, j * 5 + k, none⟩ = some u) ∧ (∀ o, wr.frozen? ⟨g, o, none⟩ = false) ∧ g ≠ S ∧ g < wr.heap.size := by
  have hx : r[j]? = some r[j] := List.getElem?_eq_getElem hj
  have hm : runR v (rebR (lenR (R.take i).flatten) (r.take j) ++ r.drop j) ∈ rowsAt vg (getB B ((R.take i).flatten ++ r.take j)) vb B vrs vs l0 (List.zipWith runR (vs.take i) (reb 0 (R.take i))) (List.zipWith runR (vs.drop (i + 1)) (R.drop (i + 1))) v (rebR (lenR (R.take i).flatten) (r.take j) ++ r.drop j) := by simp [rowsAt]
  have hlen : (rebR (lenR (R.take i).flatten) (r.take j) ++ r.drop j).length = r.length := by simp [rebR_length]; omega
  have hxx : (rebR (lenR (R.take i).flatten) (r.take j) ++ r.drop j)[j]? = some r[j] := by
    have : (rebR (lenR (R.take i).flatten) (r.take j)).length = j := by simp [rebR_length]; omega
    rw [List.getElem?_append_right (by omega), this]
    simp [hj]
  rcases own_shape (h.rows.own _ hm) with ⟨_, h2, _⟩ | ⟨g, c, h1, _, _, hob, hg, _, hc, hf⟩
  · have h2' : (rebR (lenR (R.take i).flatten) (r.take j) ++ r.drop j).length = 0 := h2
    omega
  · have h1' : v = .slice (some ⟨g, 0, none⟩) (rebR (lenR (R.take i).flatten) (r.take j) ++ r.drop j).length c := h1
    rw [hlen] at h1'
    refine ⟨r[j], g, c, hx, h1', hob, fun k u hk => ?_, hf, ?_, hg⟩
    · apply hc
      show (runC _)[j * 5 + k]? = some u
      rw [runC_get _ _ _ hxx k (by have := (List.getElem?_eq_some_iff.1 hk).1; simpa [entC] using this)]
      exact hk
    · intro e
      exact h.rows.noS _ hm (by rw [← e]; exact hob)

/-- one round's worth: behind the append, the two stores -/
theorem inn_step {j : Nat} {x : Ent} {g : Nat} {w2 : World} {vg2 : Value} (hx : r[j]? = some x) (hg : v.ownBlock = some g) (hpre : ∀ y ∈ (R.take i).flatten ++ r.take j, In B y)
    (hrows : Rws w2 N S (rowsAt vg2 (getB B ((R.take i).flatten ++ r.take j) ++ cut1 B x) vb B vrs vs l0 (List.zipWith runR (vs.take i) (reb 0 (R.take i))) (List.zipWith runR (vs.drop (i + 1)) (R.drop (i + 1))) v (rebR (lenR (R.take i).flatten) (r.take j) ++ r.drop j))) (k2 : KS w2 S vrs vb G) (b2 : Below N w w2) :
    Inn w N S vrs vb B G vs R l0 i v r (j + 1) vg2 ((w2.setCell ⟨g, j * 5, none⟩ (.int .i64 ((getB B ((R.take i).flatten ++ r.take j)).length : Int))).setCell ⟨g, j * 5 + 1, none⟩ (.int .i64 (((getB B ((R.take i).flatten ++ r.take j)).length + len1 x : Nat) : Int))) := by
  obtain ⟨hj, e⟩ := List.getElem?_eq_some_iff.1 hx
  have hd : r.drop j = x :: r.drop (j + 1) := by rw [List.drop_eq_getElem_cons hj, e]
  have ht : r.take (j + 1) = r.take j ++ [x] := by rw [List.take_add_one, hx]; rfl
  have hl : (rebR (lenR (R.take i).flatten) (r.take j)).length = j := by simp [rebR_length]; omega
  have hgl : (getB B ((R.take i).flatten ++ r.take j)).length = lenR (R.take i).flatten + lenR (r.take j) := by rw [getB_length _ hpre, lenR_append]
  have hm : runR v (rebR (lenR (R.take i).flatten) (r.take j) ++ r.drop j) ∈ rowsAt vg2 (getB B ((R.take i).flatten ++ r.take j) ++ cut1 B x) vb B vrs vs l0 (List.zipWith runR (vs.take i) (reb 0 (R.take i))) (List.zipWith runR (vs.drop (i + 1)) (R.drop (i + 1))) v (rebR (lenR (R.take i).flatten) (r.take j) ++ r.drop j) := by simp [rowsAt]
  have hgS : g ≠ S := fun e => hrows.noS _ hm (by rw [← e]; exact hg)
  have hNg : N ≤ g := ((hrows.own _ hm).lt _ hg).1
  have lt := hrows.lt
  have g1 := grownBy_set w2 ⟨g, j * 5, none⟩ (.int .i64 ((getB B ((R.take i).flatten ++ r.take j)).length : Int))
  have g2 := grownBy_set (w2.setCell ⟨g, j * 5, none⟩ (.int .i64 ((getB B ((R.take i).flatten ++ r.take j)).length : Int))) ⟨g, j * 5 + 1, none⟩ (.int .i64 (((getB B ((R.take i).flatten ++ r.take j)).length + len1 x : Nat) : Int))
  refine ⟨(k2.grown g1 lt (fun e => hgS (Option.some.inj e).symm)).grown g2 (Nat.lt_of_lt_of_le lt g1.size) (fun e => hgS (Option.some.inj e).symm), ?_, ?_⟩
  · rw [hd] at hrows
    have := put_run hrows hg (getB B ((R.take i).flatten ++ r.take j)).length ((getB B ((R.take i).flatten ++ r.take j)).length + len1 x)
    rw [hl] at this
    have e1 : rebR (lenR (R.take i).flatten) (r.take (j + 1)) ++ r.drop (j + 1) = rebR (lenR (R.take i).flatten) (r.take j) ++ ((getB B ((R.take i).flatten ++ r.take j)).length, (getB B ((R.take i).flatten ++ r.take j)).length + len1 x, x.2.2) :: r.drop (j + 1) := by
      rw [ht, rebR_append, hgl]
      simp [rebR]
    have e2 : getB B ((R.take i).flatten ++ r.take (j + 1)) = getB B ((R.take i).flatten ++ r.take j) ++ cut1 B x := by
      rw [ht, ← List.append_assoc, getB_append]
      simp [getB]
    rw [e1, e2]
    exact this
  · have hN : N ≤ w2.heap.size := Nat.le_of_lt (Nat.lt_of_le_of_lt hrows.le hrows.lt)
    have c1 := below_grown g1 hN (fun k e => by have := Option.some.inj e; subst this; exact hNg)
    have c2 := below_grown g2 (Nat.le_trans hN g1.size) (fun k e => by have := Option.some.inj e; subst this; exact hNg)
    exact b2.trans (c1.trans c2)

theorem gath_shape {j : Nat} (h : Inn w N S vrs vb B G vs R l0 i v r j vg wr) : ∃ ag cg, vg = .slice ag (getB B ((R.take i).flatten ++ r.take j)).length cg := by
  rcases own_shape (h.rows.own (bR vg (getB B ((R.take i).flatten ++ r.take j))) (by simp [rowsAt])) with ⟨h1, h2, _⟩ | ⟨g, c, h1, _⟩
  · have h1' : vg = .slice none 0 0 := h1
    have h2' : (getB B ((R.take i).flatten ++ r.take j)).length = 0 := h2
    exact ⟨none, 0, by rw [h1', h2']⟩
  · exact ⟨_, _, h1⟩

theorem flat_split {x : Ent} {j : Nat} (hr : R[i]? = some r) (hx : r[j]? = some x) : R.flatten = ((R.take i).flatten ++ r.take j) ++ x :: (r.drop (j + 1) ++ (R.drop (i + 1)).flatten) := by
  obtain ⟨h2, e2⟩ := List.getElem?_eq_some_iff.1 hr
  obtain ⟨h3, e3⟩ := List.getElem?_eq_some_iff.1 hx
  have a1 : R.flatten = (R.take i).flatten ++ (R.drop i).flatten := by rw [← List.flatten_append, List.take_append_drop]
  have a2 : R.drop i = r :: R.drop (i + 1) := by rw [List.drop_eq_getElem_cons h2, e2]
  have a3 : r.drop j = x :: r.drop (j + 1) := by rw [List.drop_eq_getElem_cons h3, e3]
  have a4 : (R.drop i).flatten = r.take j ++ (x :: r.drop (j + 1) ++ (R.drop (i + 1)).flatten) := by
    rw [a2, List.flatten_cons, ← List.append_assoc, ← a3, List.take_append_drop]
  rw [a1, a4]; simp

theorem inn_box {j : Nat} (h : Inn w N S vrs vb B G vs R l0 i v r j vg wr) (o : Obj) (nq : Nat) : Inn w N S vrs vb B G vs R l0 i v r j vg ((wr.alloc o).drewN nq) := by
  have hN : N ≤ wr.heap.size := Nat.le_of_lt (Nat.lt_of_le_of_lt h.rows.le h.rows.lt)
  exact ⟨(h.ks.alloc h.rows.lt o).drewN nq, rws_drewN (h.rows.alloc o) nq, (h.below.alloc hN o).trans ⟨rfl, rfl, rfl, Nat.le_refl _, fun _ _ => rfl⟩⟩

theorem inn_own {j : Nat} (h : Inn w N S vrs vb B G vs R l0 i v r j vg wr) : wr.ownsRow N 5 1 vb B.length (B.map (Value.int .u8)) :=
  h.rows.own (bR vb B) (by simp [rowsAt])

/-- behind the append -/
theorem inn_app {j : Nat} {x : Ent} {g : Nat} {vg2 : Value} {w3 : World} (h : Inn w N S vrs vb B G vs R l0 i v r j vg wr) (hx : r[j]? = some x) (hin : In B x) (hg : v.ownBlock = some g)
    (hr : Rws w3 N S (⟨5, 1, vg2, (getB B ((R.take i).flatten ++ r.take j)).length + len1 x, (getB B ((R.take i).flatten ++ r.take j)).map (Value.int .u8) ++ (cut1 B x).map (Value.int .u8)⟩ :: bR vb B :: ⟨29, 1, vrs, vs.length, vs⟩ :: (l0 ++ (List.zipWith runR (vs.take i) (reb 0 (R.take i)) ++ runR v (rebR (lenR (R.take i).flatten) (r.take j) ++ r.drop j) :: List.zipWith runR (vs.drop (i + 1)) (R.drop (i + 1))))))
    (hgr : wr.grownBy w3 vg.ownBlock) :
    Rws w3 N S (rowsAt vg2 (getB B ((R.take i).flatten ++ r.take j) ++ cut1 B x) vb B vrs vs l0 (List.zipWith runR (vs.take i) (reb 0 (R.take i))) (List.zipWith runR (vs.drop (i + 1)) (R.drop (i + 1))) v (rebR (lenR (R.take i).flatten) (r.take j) ++ r.drop j)) ∧ KS w3 S vrs vb G ∧ Below N w w3
      ∧ (∀ k u, (entC x)[k]? = some u → w3.cell? ⟨g, j * 5 + k, none⟩ = some u) ∧ (∀ o, w3.frozen? ⟨g, o, none⟩ = false) ∧ g < w3.heap.size ∧ ∃ ag cg, vg2 = .slice ag ((getB B ((R.take i).flatten ++ r.take j)).length + len1 x) cg := by
  have hN : N ≤ wr.heap.size := Nat.le_of_lt (Nat.lt_of_le_of_lt h.rows.le h.rows.lt)
  have hm : bR vg (getB B ((R.take i).flatten ++ r.take j)) ∈ rowsAt vg (getB B ((R.take i).flatten ++ r.take j)) vb B vrs vs l0 (List.zipWith runR (vs.take i) (reb 0 (R.take i))) (List.zipWith runR (vs.drop (i + 1)) (R.drop (i + 1))) v (rebR (lenR (R.take i).flatten) (r.take j) ++ r.drop j) := by simp [rowsAt]
  have hnS := h.rows.noS _ hm
  have hlt := (h.rows.own _ hm).lt
  have hrows : Rws w3 N S (rowsAt vg2 (getB B ((R.take i).flatten ++ r.take j) ++ cut1 B x) vb B vrs vs l0 (List.zipWith runR (vs.take i) (reb 0 (R.take i))) (List.zipWith runR (vs.drop (i + 1)) (R.drop (i + 1))) v (rebR (lenR (R.take i).flatten) (r.take j) ++ r.drop j)) := by
    unfold rowsAt
    have e : bR vg2 (getB B ((R.take i).flatten ++ r.take j) ++ cut1 B x) = ⟨5, 1, vg2, (getB B ((R.take i).flatten ++ r.take j)).length + len1 x, (getB B ((R.take i).flatten ++ r.take j)).map (Value.int .u8) ++ (cut1 B x).map (Value.int .u8)⟩ := by
      simp [bR, cut1_length hin]
    rw [e]
    exact hr
  have hks : KS w3 S vrs vb G := h.ks.grown hgr h.rows.lt (fun e => hnS e.symm)
  have hbl : Below N w w3 := h.below.trans (below_grown hgr hN (fun k e => (hlt k e).1))
  have hj : j < r.length := (List.getElem?_eq_some_iff.1 hx).1
  refine ⟨hrows, hks, hbl, ?_⟩
  have hm2 : runR v (rebR (lenR (R.take i).flatten) (r.take j) ++ r.drop j) ∈ rowsAt vg2 (getB B ((R.take i).flatten ++ r.take j) ++ cut1 B x) vb B vrs vs l0 (List.zipWith runR (vs.take i) (reb 0 (R.take i))) (List.zipWith runR (vs.drop (i + 1)) (R.drop (i + 1))) v (rebR (lenR (R.take i).flatten) (r.take j) ++ r.drop j) := by simp [rowsAt]
  have hxx : (rebR (lenR (R.take i).flatten) (r.take j) ++ r.drop j)[j]? = some x := by
    have : (rebR (lenR (R.take i).flatten) (r.take j)).length = j := by simp [rebR_length]; omega
    rw [List.getElem?_append_right (by omega), this]
    simpa using hx
  have hsg : ∃ ag cg, vg2 = .slice ag ((getB B ((R.take i).flatten ++ r.take j)).length + len1 x) cg := by
    rcases own_shape (hr.own _ (List.mem_cons_self ..)) with ⟨h1, h2, _⟩ | ⟨g, c, h1, _⟩
    · have h1' : vg2 = .slice none 0 0 := h1
      have h2' : (getB B ((R.take i).flatten ++ r.take j)).length + len1 x = 0 := h2
      exact ⟨none, 0, by rw [h1', h2']⟩
    · exact ⟨_, _, h1⟩
  rcases own_shape (hrows.own _ hm2) with ⟨h1, _, _⟩ | ⟨g', c, h1, _, _, hob, hgs, _, hc, hf⟩
  · have h1' : v = .slice none 0 0 := h1
    rw [h1'] at hg
    simp [Value.ownBlock] at hg
  · have hob' : v.ownBlock = some g' := hob
    have : g' = g := Option.some.inj (hob'.symm.trans hg)
    subst this
    refine ⟨fun k u hk => ?_, hf, hgs, hsg⟩
    apply hc
    show (runC _)[j * 5 + k]? = some u
    rw [runC_get _ _ _ hxx k (by have := (List.getElem?_eq_some_iff.1 hk).1; simpa [entC] using this)]
    exact hk

theorem out_shape (h : Out w N S vrs vb B G vs R l0 i vg wr) : ∃ ag cg, vg = .slice ag (getB B (R.take i).flatten).length cg := by
  rcases own_shape (h.rows.own (bR vg (getB B (R.take i).flatten)) (by simp)) with ⟨h1, h2, _⟩ | ⟨g, c, h1, _⟩
  · have h1' : vg = .slice none 0 0 := h1
    have h2' : (getB B (R.take i).flatten).length = 0 := h2
    exact ⟨none, 0, by rw [h1', h2']⟩
  · exact ⟨_, _, h1⟩

theorem ks_set {vb' : Value} (k : KS wr S vrs vb G) : KS ((wr.setCell ⟨S, 1, none⟩ vb').setCell ⟨S, 2, none⟩ (.int .i64 0)) S vrs vb' 0 := by
  have c0 := k.c0; have c1 := k.c1; have c2 := k.c2; have fz := k.fz
  refine ⟨?_, ?_, ?_, fun o => ?_⟩
  · simp [go_sem, c0]
  · simp [go_sem, c1]
  · simp [go_sem, c2]
  · simp [go_sem, fz]

theorem out_end (h : Out w N S vrs vb B G vs R l0 vs.length vg wr) (hlen : vs.length = R.length) :
    ∃ vg', KS ((wr.setCell ⟨S, 1, none⟩ vg).setCell ⟨S, 2, none⟩ (.int .i64 0)) S vrs vg' 0 ∧
      Rws ((wr.setCell ⟨S, 1, none⟩ vg).setCell ⟨S, 2, none⟩ (.int .i64 0)) N S (bR vg' (getB B R.flatten) :: bR vb B :: ⟨29, 1, vrs, vs.length, vs⟩ :: (l0 ++ List.zipWith runR vs (reb 0 R))) ∧ Below N w ((wr.setCell ⟨S, 1, none⟩ vg).setCell ⟨S, 2, none⟩ (.int .i64 0)) := by
  refine ⟨vg, ks_set h.ks, ?_, ?_⟩
  · have := (h.rows.setS 1 vg).setS 2 (.int .i64 0)
    have e1 : vs.take vs.length = vs := List.take_length
    have e2 : R.take vs.length = R := by rw [hlen]; exact List.take_length
    rw [e1, e2] at this
    simpa using this
  · exact (h.below.setCell (p := ⟨S, 1, none⟩) h.rows.le _).setCell (p := ⟨S, 2, none⟩) h.rows.le _
end

set_option maxHeartbeats 4000000 in
theorem gather_any (w : World) (N S : Nat) (vrs vb : Value) (B : List Int) (G T : Nat) (vs : List Value) (R : List (List Ent)) (l0 : List Rw)
    (ks : KS w S vrs vb G) (hrows : Rws w N S (bR vb B :: ⟨29, 1, vrs, vs.length, vs⟩ :: (l0 ++ List.zipWith runR vs R))) (hlen : vs.length = R.length) (hin : ∀ x ∈ R.flatten, In B x) (hTl : lenR R.flatten = T)
    (hBG : B.length = G + T) (hB : B.length ≤ 4194304) (hR : R.length ≤ 4096) (hF : R.flatten.length ≤ 4096) :
    Calls Yba.prog 5 #[.pointer (some ⟨S, 0, none⟩)] w fun e w' => e = .returned (.tuple #[]) ∧ ∃ vg, KS w' S vrs vg 0 ∧
      Rws w' N S (bR vg (getB B R.flatten) :: bR vb B :: ⟨29, 1, vrs, vs.length, vs⟩ :: (l0 ++ List.zipWith runR vs (reb 0 R))) ∧ Below N w w' := by
  have hmk := make23 T (by omega)
  have hT : (B.length : Int) - (G : Int) = (T : Int) := by omega
  have hGB : (G : Int) ≤ (B.length : Int) := by omega
  have hTB : T ≤ 4194304 := by omega
  have hst := fun n => out_start (G := (G : Int)) T n hTB ks hrows
  have HST : Hid (∀ n, Out w N S vrs vb B G vs R l0 0 (.slice (some ⟨w.heap.size, 0, none⟩) 0 T) ((w.alloc (.cells (madeCells #[.int .u8 0] T) 5)).drewN n)) := hst
  have HTL : Hid (lenR R.flatten = T) := hTl
  have HLEN : Hid (vs.length = R.length) := hlen
  have HIN : Hid (∀ x ∈ R.flatten, In B x) := hin
  have hvl : vs.length ≤ 4096 := by omega
  obtain ⟨ab, cb, hvb⟩ : ∃ ab cb, vb = .slice ab B.length cb := by
    rcases own_shape (hrows.own (bR vb B) (List.mem_cons_self ..)) with ⟨h1, h2, _⟩ | ⟨g, c, h1, _⟩
    · have h1' : vb = .slice none 0 0 := h1
      have h2' : B.length = 0 := h2
      exact ⟨none, 0, by rw [h1', h2']⟩
    · exact ⟨_, _, h1⟩
  obtain ⟨ar, cr, hvr⟩ : ∃ ar cr, vrs = .slice ar vs.length cr := by
    rcases own_shape (hrows.own ⟨29, 1, vrs, vs.length, vs⟩ (by simp)) with ⟨h1, h2, _⟩ | ⟨g, c, h1, _⟩
    · have h1' : vrs = .slice none 0 0 := h1
      have h2' : vs.length = 0 := h2
      exact ⟨none, 0, by rw [h1', h2']⟩
    · exact ⟨_, _, h1⟩
  have lt := hrows.lt
  clear hBG hTl hlen hin hst
  subst hvb hvr
  have c0 := ks.c0; have c1 := ks.c1; have c2 := ks.c2
  have d0 : ∀ o, (w.alloc o).cell? ⟨S, 0, none⟩ = some (.slice ar vs.length cr) := fun o => (ks.alloc lt o).c0
  clear ks hrows
  go_enter Yba.func5, Yba.ntmps5
  go_wp2
  go_region
  go_wp2
  go_loopw [2, 24] (fun g t wr => ∃ i : Nat, i ≤ vs.length ∧ t = .int .i64 i ∧ Out w N S (.slice ar vs.length cr) (.slice ab B.length cb) B G vs R l0 i g wr) (fun _ t _ => vs.length - (intOf t).toNat)
  case atStart => exact ⟨0, Nat.zero_le _, rfl, HST.out 1⟩
  case round =>
    obtain ⟨i, hi, rfl, hout⟩ := hrel
    by_cases hlt : i < vs.length
    · obtain ⟨v, r, gr, hv, hr, rfl, hc, av, cv, rfl⟩ := run_at hout HLEN.out hlt
      have hlt' : (i : Int) < (vs.length : Int) := by omega
      have HI0 := hide_of (inn_start hout hv hr)
      have HV := hide_of hv
      have HR := hide_of hr
      clear hout hv hr
      go_wp2_with fail
      have hrl : r.length ≤ 4096 := by
        have h2 : r ∈ R := List.mem_of_getElem? HR.out
        exact Nat.le_trans (List.sublist_flatten_of_mem h2).length_le hF
      go_loopw [2, 30] (fun g t wx => ∃ j : Nat, j ≤ r.length ∧ t = .int .i64 j ∧ Inn w N S (.slice (some ⟨gr, 0, none⟩) vs.length cr) (.slice ab B.length cb) B G vs R l0 i (.slice av r.length cv) r j g wx) (fun _ t _ => r.length - (intOf t).toNat)
      case atStart => exact ⟨0, Nat.zero_le _, rfl, HI0.out⟩
      case round =>
        obtain ⟨j, hj, rfl, hinn⟩ := hrel
        by_cases hjl : j < r.length
        · obtain ⟨x, g, c, hx, hvs, hob, hcs, hfz, hgS, hgl⟩ := ent_at hinn hjl
          have hjl' : (j : Int) < (r.length : Int) := by omega
          injection hvs with e1 _ e2
          subst e1 e2
          have c0 := hcs 0 _ rfl
          have c1 := hcs 1 _ rfl
          have c2 := hcs 2 _ rfl
          have c3 := hcs 3 _ rfl
          have c4 := hcs 4 _ rfl
          simp only [Nat.add_zero] at c0
          obtain ⟨ag, cg, hvg⟩ := gath_shape hinn
          have hsp := flat_split HR.out hx
          have hix : In B x := HIN.out x (by rw [hsp]; simp)
          have hpre : ∀ y ∈ (R.take i).flatten ++ r.take j, In B y := fun y hy => HIN.out y (by rw [hsp]; exact List.mem_append_left _ hy)
          have hbd : (getB B ((R.take i).flatten ++ r.take j)).length + len1 x ≤ 4194304 := by
            have h1 := HTL.out
            rw [hsp, lenR_append, lenR_cons] at h1
            rw [getB_length _ hpre]
            omega
          have hkey := key_any (wr.alloc (entO x)) N S _ B x (inn_own (inn_box hinn (entO x) 0)) (inn_box hinn (entO x) 0).ks.c1 (inn_box hinn (entO x) 0).rows.lt hix
          have HB := hide_of (fun nq => inn_box (inn_box hinn (entO x) 0) (entO x) nq)
          have HOB := hide_of hob
          have HXX := hide_of hx
          have HIX := hide_of hix
          have HPRE := hide_of hpre
          have HKEY := hide_of hkey
          have hn : ∃ n, n = (getB B ((R.take i).flatten ++ r.take j)).length := ⟨_, rfl⟩
          clear hinn hob hcs hsp hix hpre hkey hx
          subst hvg
          go_wp2_with (first | (go_at_call 7; refine HKEY.out.mono ?_; rintro e' w' ⟨u, rfl, hsrc, nq, rfl⟩) | (at_builtin; refine app23 rfl _ _ rfl N S _ _ _ _ rfl (HB.out nq).rows _ _ _ rfl hsrc hbd ?_; intro vg2 w3 hr3 hg3; obtain ⟨hr4, hk4, hb4, hc4, hf4, hg4, ag2, cg2, rfl⟩ := inn_app (HB.out nq) HXX.out HIX.out HOB.out hr3 hg3; have d0 := hc4 0 _ rfl; have d1 := hc4 1 _ rfl; simp only [Nat.add_zero] at d0; have HR4 := hide_of hr4; have HK4 := hide_of hk4; have HB4 := hide_of hb4; clear hr3 hg3 hr4 hk4 hb4 hc4 hsrc))
          refine ⟨⟨j + 1, by omega, by simp, ?_⟩, ?_⟩
          · have := inn_step HXX.out HOB.out HPRE.out HR4.out HK4.out HB4.out
            simpa using this
          · simp only [intOf]; omega
        · have hjl' : ¬ (j : Int) < (r.length : Int) := by omega
          have hje : j = r.length := by omega
          subst hje
          have HO := hide_of (inn_end hinn HV.out HR.out HLEN.out)
          clear hinn
          go_wp2_with fail
          refine ⟨⟨i + 1, by omega, by simp, HO.out⟩, ?_⟩
          simp only [intOf]; omega
    · have hlt' : ¬ (i : Int) < (vs.length : Int) := by omega
      have hie : i = vs.length := by omega
      subst hie
      have e0 := hout.ks.c0
      have e1 := hout.ks.c1
      have e2 := hout.ks.c2
      have ef := hout.ks.fz
      have lt2 := hout.rows.lt
      obtain ⟨ag, cg, rfl⟩ := out_shape hout
      have HO := hide_of (out_end hout HLEN.out)
      clear hout
      go_wp2_with fail
      refine ⟨rfl, .tuple #[], ?_, rfl, HO.out⟩
      simp [results, Yba.results5, go_sem]
end Go.Proofs.Ybulkddve.Gather
