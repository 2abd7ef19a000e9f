/-
  For the walk of the law: behind the filling, behind gather, an entry of a run as gather left it.
-/
import Derived.Test.YbulkddveChk
namespace Go.Proofs.Ybulkddve.Law
open Go.ChangeShapes Go.WideShapes Go.ChangeAt Go.RowKit Own Plain Parts Runs Gather
set_option maxRecDepth 100000

theorem src_ent_set (w : World) (a : Addr) (v : Value) (n m k : Nat) :
    Src ((w.setCell a v).alloc (.cells #[.int .i64 (n : Int), .int .i64 ((n : Int) + (m : Int)), .int .u32 0, .int .u16 0, .int .i64 ((k : Int) + 1)] 38)) 5 (.slice (some ⟨w.heap.size, 0, none⟩) 1 1) 1 (entC (n, n + m, k + 1)) := by
  have h := src_ent (w.setCell a v) (n, n + m, k + 1)
  have hs : (w.setCell a v).heap.size = w.heap.size := by simp
  rw [ent_obj, hs] at h
  exact h
theorem src_one_set (w : World) (a : Addr) (v u : Value) (t : TypeId) (h : u.oneCell' = true) : Src ((w.setCell a v).alloc (.cells #[u] t)) 1 (.slice (some ⟨w.heap.size, 0, none⟩) 1 1) 1 [u] := by
  have h := src_one (w.setCell a v) u t h
  have hs : (w.setCell a v).heap.size = w.heap.size := by simp
  rw [hs] at h
  exact h

theorem Fr.appS2 {w : World} {N S : Nat} {vrs vb : Value} {G : Nat} {l : List Rw} {wa w3 : World} {v v3 : Value} {Rs : List (List Ent)} {r : List Ent} {x : Ent} (h : Fr w N S vrs vb G (⟨3, 1, v, Rs.length, sh Rs⟩ :: l) wa)
    (hr : Rws w3 N S (⟨3, 1, v3, Rs.length + 1, sh Rs ++ [.int .i64 ((r.length : Int) + 1)]⟩ :: l)) (hg : wa.grownBy w3 v.ownBlock) :
    Fr w N S vrs vb G (⟨3, 1, v3, (Rs ++ [r ++ [x]]).length, sh (Rs ++ [r ++ [x]])⟩ :: l) w3 ∧ ∃ a c, v3 = .slice a (Rs.length + 1) c :=
  Fr.appS (r := r ++ [x]) h (by simpa using hr) hg

theorem pm4 (a b c d x : Rw) (t : List Rw) : (a :: b :: c :: d :: x :: t).Perm (x :: a :: b :: c :: d :: t) := List.perm_middle (l₁ := [a, b, c, d])

/-- behind the filling -/
structure Fn (w : World) (N S : Nat) (K : List Kd) (i : Nat) (vw vsh : Value) (wx : World) (vrs vb : Value) (vs : List Value) (Rs : List (List Ent)) (B : List Int) (G : Nat) (W : List Int) : Prop where
  hv : vs.length = Rs.length
  hk : Rs.length ≤ i + 1
  pl : Pl K i B G W Rs.flatten
  fr : Fr w N S vrs vb G (bR vb B :: ⟨29, 1, vrs, vs.length, vs⟩ :: ([bR vw W, ⟨3, 1, vsh, Rs.length, sh Rs⟩] ++ List.zipWith runR vs Rs)) wx

theorem fn_none {w : World} {N S : Nat} {K : List Kd} {i : Nat} {vw vr vsh : Value} {wr : World} {vrs vb : Value} {vs : List Value} {Rs : List (List Ent)} {r : List Ent} {B : List Int} {G : Nat} {W : List Int}
    (h : St w N S K i vw vr vsh wr vrs vb vs Rs r B G W) (hr : r.length = 0) : ∃ vrs vb vs Rs B G W, Fn w N S K i vw vsh wr vrs vb vs Rs B G W := by
  have hr0 : r = [] := List.length_eq_zero_iff.1 hr
  subst hr0
  refine ⟨vrs, vb, vs, Rs, B, G, W, h.hv, Nat.le_succ_of_le h.hk, by simpa using h.pl, ?_⟩
  exact (h.fr.perm (pm2 ..)).tail.perm (List.Perm.cons _ (pm2 ..))

theorem fn_app {w : World} {N S : Nat} {K : List Kd} {i : Nat} {vw vr vsh vsh' : Value} {wr wx : World} {vrs vrs' vb : Value} {vs : List Value} {Rs : List (List Ent)} {r : List Ent} {B : List Int} {G : Nat} {W : List Int}
    (h : St w N S K i vw vr vsh wr vrs vb vs Rs r B G W)
    (F : Fr w N S vrs' vb G (⟨3, 1, vsh', (Rs ++ [r]).length, sh (Rs ++ [r])⟩ :: ⟨29, 1, vrs', (vs ++ [vr]).length, vs ++ [vr]⟩ :: bR vb B :: bR vw W :: runR vr r :: List.zipWith runR vs Rs) wx) :
    ∃ vrs vb vs Rs B G W, Fn w N S K i vw vsh' wx vrs vb vs Rs B G W := by
  have hv := h.hv
  have hk := h.hk
  refine ⟨vrs', vb, vs ++ [vr], Rs ++ [r], B, G, W, by simp [hv], by simp; omega, by simpa using h.pl, ?_⟩
  refine (F.perm (pm2 ..)).perm (List.Perm.cons _ ((pm1 ..).trans (List.Perm.cons _ ((pm1 ..).trans (List.Perm.cons _ (List.Perm.cons _ ?_))))))
  rw [List.zipWith_append hv]
  exact (List.perm_append_singleton _ _).symm

/-- behind gather -/
structure Ga (w : World) (N S : Nat) (K : List Kd) (i : Nat) (vw vsh vcl : Value) (wx : World) (vrs vb vg : Value) (vs : List Value) (Rs : List (List Ent)) (B : List Int) (G : Nat) (W : List Int) : Prop where
  hv : vs.length = Rs.length
  hk : Rs.length ≤ i + 1
  pl : Pl K i B G W Rs.flatten
  fr : Fr w N S vrs vg 0 (bR vg W :: bR vb B :: ⟨29, 1, vrs, vs.length, vs⟩ :: ([bR vcl B, bR vw W, ⟨3, 1, vsh, Rs.length, sh Rs⟩] ++ List.zipWith runR vs (reb 0 Rs))) wx

theorem Fn.clone {w : World} {N S : Nat} {K : List Kd} {i : Nat} {vw vsh : Value} {wx w1 : World} {vrs vb vcl : Value} {vs : List Value} {Rs : List (List Ent)} {B : List Int} {G : Nat} {W : List Int}
    (h : Fn w N S K i vw vsh wx vrs vb vs Rs B G W) (ho : w1.ownsRow wx.heap.size 5 1 vcl B.length (B.map (Value.int .u8))) (hb : Below wx.heap.size wx w1) :
    Fr w N S vrs vb G (bR vb B :: ⟨29, 1, vrs, vs.length, vs⟩ :: ([bR vcl B, bR vw W, ⟨3, 1, vsh, Rs.length, sh Rs⟩] ++ List.zipWith runR vs Rs)) w1 :=
  (h.fr.newRow hb ho).perm (pm2 ..).symm

theorem Fn.gather {w : World} {N S : Nat} {K : List Kd} {i : Nat} {vw vsh : Value} {wx w1 : World} {vrs vb vcl : Value} {vs : List Value} {Rs : List (List Ent)} {B : List Int} {G : Nat} {W : List Int}
    (h : Fn w N S K i vw vsh wx vrs vb vs Rs B G W) (hi : i ≤ 1024)
    (F : Fr w N S vrs vb G (bR vb B :: ⟨29, 1, vrs, vs.length, vs⟩ :: ([bR vcl B, bR vw W, ⟨3, 1, vsh, Rs.length, sh Rs⟩] ++ List.zipWith runR vs Rs)) w1) :
    Calls Yba.prog 5 #[.pointer (some ⟨S, 0, none⟩)] w1 fun e w2 => e = .returned (.tuple #[]) ∧ ∃ vg, Ga w N S K i vw vsh vcl w2 vrs vb vg vs Rs B G W := by
  have hk := h.hk
  have hl := h.pl.len
  have hbd := h.pl.bound
  have hw := h.pl.w
  refine (gather_any w1 N S vrs vb B G W.length vs Rs [bR vcl B, bR vw W, ⟨3, 1, vsh, Rs.length, sh Rs⟩] F.ks F.rows h.hv h.pl.allIn ?_ h.pl.bg (by omega) (by omega) (by omega)).mono ?_
  · rw [hw, getB_length _ h.pl.allIn]
  · rintro e w2 ⟨he, vg, hks, hr, hb⟩
    refine ⟨he, vg, h.hv, h.hk, h.pl, hks, ?_, F.below.trans hb⟩
    rw [← hw] at hr
    exact hr

theorem Ga.shapes {w : World} {N S : Nat} {K : List Kd} {i : Nat} {vw vsh vcl : Value} {wx : World} {vrs vb vg : Value} {vs : List Value} {Rs : List (List Ent)} {B : List Int} {G : Nat} {W : List Int}
    (h : Ga w N S K i vw vsh vcl wx vrs vb vg vs Rs B G W) : (∃ a c, vrs = .slice a Rs.length c) ∧ (∃ a c, vsh = .slice a Rs.length c) ∧ ∃ a c, vg = .slice a W.length c := by
  refine ⟨?_, ?_, ?_⟩
  · obtain ⟨a, c, hs⟩ := h.fr.shape (r := ⟨29, 1, vrs, vs.length, vs⟩) (by simp)
    exact ⟨a, c, by rw [← h.hv]; exact hs⟩
  · obtain ⟨a, c, hs⟩ := h.fr.shape (r := ⟨3, 1, vsh, Rs.length, sh Rs⟩) (by simp)
    exact ⟨a, c, hs⟩
  · obtain ⟨a, c, hs⟩ := h.fr.shape (r := bR vg W) (by simp)
    exact ⟨a, c, hs⟩

theorem Fr.lies {w : World} {N S : Nat} {vrs vb v : Value} {G : Nat} {l : List Rw} {wr : World} {B : List Int} (h : Fr w N S vrs vb G l wr) (hm : bR v B ∈ l) : Lies wr v B := lies_of_own (h.rows.own _ hm)


section
variable {w : World} {N S : Nat} {K : List Kd} {i : Nat} {vw vsh vcl : Value} {wx : World} {vrs vb vg : Value} {vs : List Value} {Rs : List (List Ent)} {B : List Int} {G : Nat} {W : List Int}
theorem Ga.alloc (h : Ga w N S K i vw vsh vcl wx vrs vb vg vs Rs B G W) (o : Obj) : Ga w N S K i vw vsh vcl (wx.alloc o) vrs vb vg vs Rs B G W := ⟨h.hv, h.hk, h.pl, h.fr.alloc o⟩

theorem zip_mem {vs : List Value} {R : List (List Ent)} {v : Value} {r : List Ent} {a : Nat} (hv : vs[a]? = some v) (hr : R[a]? = some r) : runR v r ∈ List.zipWith runR vs R := by
  apply List.mem_of_getElem? (i := a)
  rw [List.getElem?_zipWith, hv, hr]

theorem Ga.run_at {ar as8 : Option Addr} {cr cs8 : Nat} (h : Ga w N S K i vw (.slice as8 Rs.length cs8) vcl wx (.slice ar Rs.length cr) vb vg vs Rs B G W) {a : Nat} (ha : a < Rs.length) :
    ∃ v r g g8, vs[a]? = some v ∧ Rs[a]? = some r ∧ ar = some ⟨g, 0, none⟩ ∧ as8 = some ⟨g8, 0, none⟩ ∧ wx.cell? ⟨g, a, none⟩ = some v ∧ wx.cell? ⟨g8, a, none⟩ = some (.int .i64 (r.length : Int)) ∧ ∃ av cv, v = .slice av r.length cv := by
  have hv := h.hv
  have hi1 : a < vs.length := by omega
  have e1 : vs[a]? = some vs[a] := List.getElem?_eq_getElem hi1
  have e2 : Rs[a]? = some Rs[a] := List.getElem?_eq_getElem ha
  have e3 := reb_get Rs 0 a _ e2
  rw [Nat.zero_add] at e3
  refine ⟨vs[a], Rs[a], ?_⟩
  have hsh : ∃ av cv, vs[a] = .slice av Rs[a].length cv := by
    obtain ⟨av, cv, hs⟩ := h.fr.shape (r := runR vs[a] (rebR (lenR (Rs.take a).flatten) Rs[a])) (by have := zip_mem e1 e3; simp [this])
    refine ⟨av, cv, ?_⟩
    have hs' : vs[a] = .slice av (rebR (lenR (Rs.take a).flatten) Rs[a]).length cv := hs
    rw [rebR_length] at hs'
    exact hs'
  rcases own_shape (h.fr.rows.own ⟨29, 1, .slice ar Rs.length cr, vs.length, vs⟩ (by simp)) with ⟨_, h2, _⟩ | ⟨g, c, h1, _, _, _, _, _, hc, _⟩
  · have h2' : vs.length = 0 := h2
    omega
  rcases own_shape (h.fr.rows.own ⟨3, 1, .slice as8 Rs.length cs8, Rs.length, sh Rs⟩ (by simp)) with ⟨_, h2, _⟩ | ⟨g8, c8, h8, _, _, _, _, _, hc8, _⟩
  · have h2' : Rs.length = 0 := h2
    omega
  have h1' : (Value.slice ar Rs.length cr) = .slice (some ⟨g, 0, none⟩) vs.length c := h1
  have h8' : (Value.slice as8 Rs.length cs8) = .slice (some ⟨g8, 0, none⟩) Rs.length c8 := h8
  injection h1' with q1
  injection h8' with q8
  refine ⟨g, g8, e1, e2, q1, q8, hc a _ e1, hc8 a _ ?_, hsh⟩
  show (sh Rs)[a]? = _
  simp [sh, e2]

theorem flat_get {a j : Nat} {r : List Ent} {x : Ent} (hr : Rs[a]? = some r) (hx : r[j]? = some x) : Rs.flatten[(Rs.take a).flatten.length + j]? = some x ∧ Rs.flatten.take ((Rs.take a).flatten.length + j) = (Rs.take a).flatten ++ r.take j := by
  have hsp := flat_split hr hx
  have hj : j < r.length := (List.getElem?_eq_some_iff.1 hx).1
  have hl : ((Rs.take a).flatten ++ r.take j).length = (Rs.take a).flatten.length + j := by simp; omega
  constructor
  · rw [hsp, List.getElem?_append_right (by omega), hl]; simp
  · rw [hsp, ← hl]; exact List.take_left

/-- entry j of run a, as gather left it, and the key it is of -/
theorem Ga.ent_at (h : Ga w N S K i vw vsh vcl wx vrs vb vg vs Rs B G W) {a j : Nat} {v : Value} {r : List Ent} (hv : vs[a]? = some v) (hr : Rs[a]? = some r) (hj : j < r.length) {n P : Nat}
    (hn : n = (Rs.take a).flatten.length + j) (hP : P = lenR (Rs.flatten.take n)) :
    ∃ g c d, v = .slice (some ⟨g, 0, none⟩) r.length c ∧ K[n]? = some d ∧ n < i ∧ lenR (Rs.flatten.take (n + 1)) = P + d.xs.length ∧ P + d.xs.length ≤ W.length ∧ (W.drop P).take d.xs.length = d.xs
      ∧ wx.cell? ⟨g, j * 5, none⟩ = some (.int .i64 (P : Int)) ∧ wx.cell? ⟨g, j * 5 + 1, none⟩ = some (.int .i64 ((P : Int) + (d.xs.length : Int))) ∧ wx.cell? ⟨g, j * 5 + 2, none⟩ = some (.int .u32 0) ∧ wx.cell? ⟨g, j * 5 + 3, none⟩ = some (.int .u16 0) ∧ wx.cell? ⟨g, j * 5 + 4, none⟩ = some (.int .i64 ((n : Int) + 1)) := by
  have hx : r[j]? = some r[j] := List.getElem?_eq_getElem hj
  obtain ⟨f1, f2⟩ := flat_get hr hx
  rw [← hn] at f1 f2
  obtain ⟨p1, p2, d, hd, hcut⟩ := h.pl.ent n _ f1
  have hlx : len1 r[j] = d.xs.length := by rw [← hcut, cut1_length p1]
  obtain ⟨c1, c2⟩ := getB_cut h.pl.allIn f1
  rw [← h.pl.w, ← hP, hlx] at c1 c2
  have hni : n < i := by
    have := (List.getElem?_eq_some_iff.1 f1).1
    rw [h.pl.len] at this
    exact this
  have hnext : lenR (Rs.flatten.take (n + 1)) = P + d.xs.length := by
    rw [List.take_add_one, f1, lenR_append, ← hP]
    simp [lenR, hlx]
  have e3 := reb_get Rs 0 a r hr
  rw [Nat.zero_add] at e3
  have hmm := zip_mem hv e3
  have hPe : P = lenR (Rs.take a).flatten + lenR (r.take j) := by rw [hP, f2, lenR_append]
  have hg := rebR_get r (lenR (Rs.take a).flatten) j _ hx
  rw [← hPe, hlx] at hg
  rcases own_shape (h.fr.rows.own (runR v (rebR (lenR (Rs.take a).flatten) r)) (by simp [hmm])) with ⟨_, h2, _⟩ | ⟨g, c, h1, _, _, _, _, _, hc, _⟩
  · have h2' : (rebR (lenR (Rs.take a).flatten) r).length = 0 := h2
    rw [rebR_length] at h2'
    omega
  · have h1' : v = .slice (some ⟨g, 0, none⟩) (rebR (lenR (Rs.take a).flatten) r).length c := h1
    rw [rebR_length] at h1'
    have cc : ∀ q u, (entC (P, P + d.xs.length, r[j].2.2))[q]? = some u → wx.cell? ⟨g, j * 5 + q, none⟩ = some u := fun q u hq => by
      apply hc
      show (runC _)[j * 5 + q]? = some u
      rw [runC_get _ _ _ hg q (by have := (List.getElem?_eq_some_iff.1 hq).1; simpa [entC] using this)]
      exact hq
    refine ⟨g, c, d, h1', hd, hni, hnext, c2, c1.trans hcut, ?_, ?_, ?_, ?_, ?_⟩
    · have := cc 0 _ rfl; simpa using this
    · have := cc 1 _ rfl; simpa using this
    · have := cc 2 _ rfl; simpa using this
    · have := cc 3 _ rfl; simpa using this
    · have := cc 4 _ rfl; simpa [p2] using this
end
end Go.Proofs.Ybulkddve.Law
