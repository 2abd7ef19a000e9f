/-
  For the walk of the law: the rows of the filling loop, and a round's end.
-/
import Derived.Test.YbulkddveFill
namespace Go.Proofs.Ybulkddve.Law
open Go.ChangeShapes Go.WideShapes Go.ChangeAt Go.RowKit Own Plain Parts Runs Gather
set_option maxRecDepth 100000

def sh (Rs : List (List Ent)) : List Value := Rs.map (fun r => .int .i64 (r.length : Int))
/-- the box of the key in hand, as a row of one -/
def boxR (X : Nat) (d : Kd) : Rw := ⟨25, 3, .slice (some ⟨X, 0, none⟩) 1 1, 1, [d.v, .int .u8 d.q, .bool d.c]⟩
def restR (vw : Value) (W : List Int) (vr : Value) (r : List Ent) (vsh vrs : Value) (vs : List Value) (Rs : List (List Ent)) : List Rw :=
  bR vw W :: runR vr r :: ⟨3, 1, vsh, Rs.length, sh Rs⟩ :: ⟨29, 1, vrs, vs.length, vs⟩ :: List.zipWith runR vs Rs

structure St (w : World) (N S : Nat) (K : List Kd) (k : Nat) (vw vr vsh : Value) (wr : World) (vrs vb : Value) (vs : List Value) (Rs : List (List Ent)) (r : List Ent) (B : List Int) (G : Nat) (W : List Int) : Prop where
  hv : vs.length = Rs.length
  hk : Rs.length ≤ k
  pl : Pl K k B G W (Rs.flatten ++ r)
  fr : Fr w N S vrs vb G (bR vb B :: restR vw W vr r vsh vrs vs Rs) wr

section
variable {w : World} {N S : Nat} {vrs vb : Value} {G : Nat} {l : List Rw} {wr : World}
theorem Fr.box {B : List Int} (h : Fr w N S vrs vb G (bR vb B :: l) wr) (d : Kd) : Fr w N S vrs vb G (bR vb B :: boxR wr.heap.size d :: l) (wr.alloc (.cells #[d.v, .int .u8 d.q, .bool d.c] 25)) := by
  have h1 := h.alloc (.cells #[d.v, .int .u8 d.q, .bool d.c] 25)
  refine Fr.perm (l := boxR wr.heap.size d :: bR vb B :: l) ?_ (List.Perm.swap ..)
  have h0 := h.rows.nil 25 3
  have hown : (wr.alloc (.cells #[d.v, .int .u8 d.q, .bool d.c] 25)).ownsRow N 25 3 (.slice (some ⟨wr.heap.size, 0, none⟩) 1 1) 1 [d.v, .int .u8 d.q, .bool d.c] := by
    refine ⟨rfl, .inr ⟨wr.heap.size, 1, #[d.v, .int .u8 d.q, .bool d.c], rfl, h.hN, Array.getElem?_push_size, by omega, by unfold maxLen; omega, rfl, rfl⟩⟩
  exact ⟨h1.ks, h0.app hown (World.grownBy_alloc wr _ _) (.inr rfl), h1.below⟩

theorem Fr.boxcells {X : Nat} {d : Kd} (h : Fr w N S vrs vb G l wr) (hm : boxR X d ∈ l) : wr.cell? ⟨X, 0, none⟩ = some d.v ∧ wr.cell? ⟨X, 1, none⟩ = some (.int .u8 d.q) ∧ wr.cell? ⟨X, 2, none⟩ = some (.bool d.c) ∧ X ≠ S ∧ X < wr.heap.size := by
  rcases own_shape (h.rows.own _ hm) with ⟨h1, _⟩ | ⟨g, c, h1, _, _, hob, hg, _, hc, _⟩
  · simp [boxR] at h1
  · simp [boxR] at h1
    obtain ⟨rfl, _⟩ := h1
    exact ⟨hc 0 _ rfl, hc 1 _ rfl, hc 2 _ rfl, fun e => h.rows.noS _ hm (by simp [boxR, Value.ownBlock, e]), hg⟩
end

theorem Fr.appB {w : World} {N S : Nat} {vrs vb : Value} {G : Nat} {l : List Rw} {wa w3 : World} {v v3 : Value} {B Y : List Int} {m : Nat} (h : Fr w N S vrs vb G (bR v B :: l) wa) (hm : m = Y.length)
    (hr : Rws w3 N S (⟨5, 1, v3, B.length + m, B.map (Value.int .u8) ++ Y.map (Value.int .u8)⟩ :: l)) (hg : wa.grownBy w3 v.ownBlock) :
    Fr w N S vrs vb G (bR v3 (B ++ Y) :: l) w3 ∧ ∃ a c, v3 = .slice a (B.length + m) c := by
  subst hm
  have e : bR v3 (B ++ Y) = ⟨5, 1, v3, B.length + Y.length, B.map (Value.int .u8) ++ Y.map (Value.int .u8)⟩ := by simp [bR]
  have F : Fr w N S vrs vb G (bR v3 (B ++ Y) :: l) w3 := by rw [e]; exact h.app hr hg
  refine ⟨F, ?_⟩
  obtain ⟨a, c, hs⟩ := F.shape (List.mem_cons_self ..)
  exact ⟨a, c, by simpa [bR] using hs⟩

theorem pm1 (a x : Rw) (t : List Rw) : (a :: x :: t).Perm (x :: a :: t) := List.perm_middle (l₁ := [a])
theorem pm2 (a b x : Rw) (t : List Rw) : (a :: b :: x :: t).Perm (x :: a :: b :: t) := List.perm_middle (l₁ := [a, b])
theorem pm3 (a b c x : Rw) (t : List Rw) : (a :: b :: c :: x :: t).Perm (x :: a :: b :: c :: t) := List.perm_middle (l₁ := [a, b, c])
theorem pm5 (a b c d e x : Rw) (t : List Rw) : (a :: b :: c :: d :: e :: x :: t).Perm (x :: a :: b :: c :: d :: e :: t) := List.perm_middle (l₁ := [a, b, c, d, e])

section
variable {w : World} {N S : Nat} {vrs vb : Value} {G : Nat} {l : List Rw} {wa w3 : World}
theorem Fr.tail {r : Rw} (h : Fr w N S vrs vb G (r :: l) wa) : Fr w N S vrs vb G l wa := ⟨h.ks, h.rows.tail, h.below⟩
theorem Fr.appR {v v3 : Value} {r : List Ent} {x : Ent} (h : Fr w N S vrs vb G (runR v r :: l) wa)
    (hr : Rws w3 N S (⟨38, 5, v3, r.length + 1, runC r ++ entC x⟩ :: l)) (hg : wa.grownBy w3 v.ownBlock) :
    Fr w N S vrs vb G (runR v3 (r ++ [x]) :: l) w3 ∧ ∃ a c, v3 = .slice a (r.length + 1) c := by
  have e : runR v3 (r ++ [x]) = ⟨38, 5, v3, r.length + 1, runC r ++ entC x⟩ := by simp [runR, runC]
  have F : Fr w N S vrs vb G (runR v3 (r ++ [x]) :: l) w3 := by rw [e]; exact h.app hr hg
  refine ⟨F, ?_⟩
  obtain ⟨a, c, hs⟩ := F.shape (List.mem_cons_self ..)
  exact ⟨a, c, by simpa [runR] using hs⟩
theorem Fr.appV {v v3 u : Value} {vs : List Value} (h : Fr w N S vrs vb G (⟨29, 1, v, vs.length, vs⟩ :: l) wa)
    (hr : Rws w3 N S (⟨29, 1, v3, vs.length + 1, vs ++ [u]⟩ :: l)) (hg : wa.grownBy w3 v.ownBlock) :
    Fr w N S vrs vb G (⟨29, 1, v3, (vs ++ [u]).length, vs ++ [u]⟩ :: l) w3 ∧ ∃ a c, v3 = .slice a (vs.length + 1) c := by
  have F : Fr w N S vrs vb G (⟨29, 1, v3, (vs ++ [u]).length, vs ++ [u]⟩ :: l) w3 := by
    have e : (vs ++ [u]).length = vs.length + 1 := by simp
    rw [e]; exact h.app hr hg
  refine ⟨F, ?_⟩
  obtain ⟨a, c, hs⟩ := F.shape (List.mem_cons_self ..)
  exact ⟨a, c, by simpa using hs⟩
theorem Fr.appS {v v3 : Value} {Rs : List (List Ent)} {r : List Ent} (h : Fr w N S vrs vb G (⟨3, 1, v, Rs.length, sh Rs⟩ :: l) wa)
    (hr : Rws w3 N S (⟨3, 1, v3, Rs.length + 1, sh Rs ++ [.int .i64 (r.length : Int)]⟩ :: l)) (hg : wa.grownBy w3 v.ownBlock) :
    Fr w N S vrs vb G (⟨3, 1, v3, (Rs ++ [r]).length, sh (Rs ++ [r])⟩ :: l) w3 ∧ ∃ a c, v3 = .slice a (Rs.length + 1) c := by
  have F : Fr w N S vrs vb G (⟨3, 1, v3, (Rs ++ [r]).length, sh (Rs ++ [r])⟩ :: l) w3 := by
    have e : (Rs ++ [r]).length = Rs.length + 1 := by simp
    have e2 : sh (Rs ++ [r]) = sh Rs ++ [.int .i64 (r.length : Int)] := by simp [sh]
    rw [e, e2]; exact h.app hr hg
  refine ⟨F, ?_⟩
  obtain ⟨a, c, hs⟩ := F.shape (List.mem_cons_self ..)
  exact ⟨a, c, by simpa using hs⟩

/-- the entry's object as the walk types it -/
theorem ent_obj (n m k : Nat) : entO (n, n + m, k + 1) = .cells #[.int .i64 (n : Int), .int .i64 ((n : Int) + (m : Int)), .int .u32 0, .int .u16 0, .int .i64 ((k : Int) + 1)] 38 := by simp [entO]

/-- the round's end, no cut -/
theorem st_next {K : List Kd} {k p : Nat} {vw vr vsh : Value} {wr wx : World} {vs : List Value} {Rs : List (List Ent)} {r : List Ent} {B W : List Int} {d : Kd} {X : Nat} {u6 u7 u8 vb0 : Value}
    (h : St w N S K k u6 u7 u8 wr vrs vb0 vs Rs r B G W) (hd : K[k]? = some d) (hs : d.xs.length ≤ 1024) (hp : p ≤ 3)
    (F : Fr w N S vrs vb (G + p) (bR vw (W ++ d.xs) :: runR vr (r ++ [((B ++ List.replicate p 238).length, (B ++ List.replicate p 238).length + d.xs.length, k + 1)]) :: bR vb ((B ++ List.replicate p 238) ++ d.xs) :: boxR X d :: ⟨3, 1, vsh, Rs.length, sh Rs⟩ :: ⟨29, 1, vrs, vs.length, vs⟩ :: List.zipWith runR vs Rs) wx) :
    ∃ vrs vb vs Rs r B G W, St w N S K (k + 1) vw vr vsh wx vrs vb vs Rs r B G W := by
  refine ⟨vrs, vb, vs, Rs, r ++ [((B ++ List.replicate p 238).length, (B ++ List.replicate p 238).length + d.xs.length, k + 1)], (B ++ List.replicate p 238) ++ d.xs, G + p, W ++ d.xs, h.hv, Nat.le_succ_of_le h.hk, ?_, ?_⟩
  · have := h.pl.step hd hs p hp
    rwa [List.append_assoc Rs.flatten r] at this
  · exact ((F.perm (pm3 ..)).tail.perm (pm2 ..))

/-- the round's end, with a cut -/
theorem st_cut {K : List Kd} {k p : Nat} {vw vr vsh vrs' : Value} {wr wx : World} {vs : List Value} {Rs : List (List Ent)} {r : List Ent} {B W : List Int} {d : Kd} {X : Nat} {u6 u7 u8 vb0 : Value}
    (h : St w N S K k u6 u7 u8 wr vrs vb0 vs Rs r B G W) (hd : K[k]? = some d) (hs : d.xs.length ≤ 1024) (hp : p ≤ 3)
    (F : Fr w N S vrs' vb (G + p) (⟨3, 1, vsh, (Rs ++ [r ++ [((B ++ List.replicate p 238).length, (B ++ List.replicate p 238).length + d.xs.length, k + 1)]]).length, sh (Rs ++ [r ++ [((B ++ List.replicate p 238).length, (B ++ List.replicate p 238).length + d.xs.length, k + 1)]])⟩ :: ⟨29, 1, vrs', (vs ++ [vr]).length, vs ++ [vr]⟩ :: bR vw (W ++ d.xs) :: runR vr (r ++ [((B ++ List.replicate p 238).length, (B ++ List.replicate p 238).length + d.xs.length, k + 1)]) :: bR vb ((B ++ List.replicate p 238) ++ d.xs) :: boxR X d :: List.zipWith runR vs Rs) wx) :
    ∃ vrs vb vs Rs r B G W, St w N S K (k + 1) vw (.slice none 0 0) vsh wx vrs vb vs Rs r B G W := by
  have hv := h.hv
  have hk := h.hk
  refine ⟨vrs', vb, vs ++ [vr], Rs ++ [r ++ [((B ++ List.replicate p 238).length, (B ++ List.replicate p 238).length + d.xs.length, k + 1)]], [], (B ++ List.replicate p 238) ++ d.xs, G + p, W ++ d.xs, by simp [hv], by simp; omega, ?_, ?_⟩
  · have := h.pl.step hd hs p hp
    rw [List.append_assoc Rs.flatten r] at this
    simpa using this
  · have F1 := ((F.perm (pm5 ..)).tail.nil 38 5).perm (pm5 ..)
    refine F1.perm (List.Perm.cons _ ((pm3 ..).trans (List.Perm.cons _ (List.Perm.cons _ (List.Perm.cons _ (List.Perm.cons _ ?_))))))
    rw [List.zipWith_append hv]
    exact (List.perm_append_singleton _ _).symm
end

theorem st_start {w wr : World} {N : Nat} (K : List Kd) (hb : Below N w wr) (hN : N ≤ wr.heap.size) :
    St w N wr.heap.size K 0 (.slice none 0 0) (.slice none 0 0) (.slice none 0 0) (wr.alloc (.cells #[.slice none 0 0, .slice none 0 0, .int .i64 0] 28)) (.slice none 0 0) (.slice none 0 0) [] [] [] [] 0 [] := by
  refine ⟨rfl, Nat.le_refl _, Pl.start K, ?_⟩
  exact (((((Fr.start wr hb hN).nil 29 1).nil 3 1).nil 38 5).nil 5 1).nil 5 1

end Go.Proofs.Ybulkddve.Law
