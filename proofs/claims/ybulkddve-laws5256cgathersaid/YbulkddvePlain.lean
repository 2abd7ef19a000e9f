/-
  Entries of keys among bytes, and the same entries moved together: lists and numbers only. No Go in sight.
-/
namespace Go.Proofs.Ybulkddve.Plain

/-- an entry: from, to, number -/
abbrev Ent := Nat × Nat × Nat

def len1 (x : Ent) : Nat := x.2.1 - x.1
def lenR (r : List Ent) : Nat := (r.map len1).sum
/-- the entries moved together, from place p on -/
def rebR : Nat → List Ent → List Ent
  | _, [] => []
  | p, x :: t => (p, p + len1 x, x.2.2) :: rebR (p + len1 x) t
def cut1 (B : List Int) (x : Ent) : List Int := (B.drop x.1).take (len1 x)
def getB (B : List Int) (r : List Ent) : List Int := r.flatMap (cut1 B)
/-- an entry lies inside the bytes -/
def In (B : List Int) (x : Ent) : Prop := x.1 ≤ x.2.1 ∧ x.2.1 ≤ B.length

theorem lenR_nil : lenR [] = 0 := rfl
theorem lenR_cons (x : Ent) (t : List Ent) : lenR (x :: t) = len1 x + lenR t := by simp [lenR]
theorem lenR_append (a b : List Ent) : lenR (a ++ b) = lenR a + lenR b := by simp [lenR]
theorem rebR_length (r : List Ent) : ∀ p, (rebR p r).length = r.length := by
  induction r with
  | nil => intro p; rfl
  | cons x t ih => intro p; simp [rebR, ih]
theorem rebR_append (a b : List Ent) : ∀ p, rebR p (a ++ b) = rebR p a ++ rebR (p + lenR a) b := by
  induction a with
  | nil => intro p; simp [rebR, lenR_nil]
  | cons x t ih => intro p; simp only [List.cons_append, rebR, ih, lenR_cons]; rw [Nat.add_assoc]
theorem cut1_length {B : List Int} {x : Ent} (h : In B x) : (cut1 B x).length = len1 x := by
  unfold cut1 len1
  obtain ⟨h1, h2⟩ := h
  simp; omega
theorem getB_append (B : List Int) (a b : List Ent) : getB B (a ++ b) = getB B a ++ getB B b := by simp [getB]
theorem getB_length {B : List Int} (r : List Ent) (h : ∀ x ∈ r, In B x) : (getB B r).length = lenR r := by
  induction r with
  | nil => rfl
  | cons x t ih =>
    have := cut1_length (h x (List.mem_cons_self ..))
    simp only [getB, List.flatMap_cons, List.length_append, lenR_cons]
    rw [this]
    have h2 := ih (fun y hy => h y (List.mem_cons_of_mem _ hy))
    unfold getB at h2
    omega
/-- entry j of a list, moved: its place is what lies before it -/
theorem rebR_get (r : List Ent) : ∀ p j x, r[j]? = some x → (rebR p r)[j]? = some (p + lenR (r.take j), p + lenR (r.take j) + len1 x, x.2.2) := by
  induction r with
  | nil => intro p j x h; simp at h
  | cons y t ih =>
    intro p j x h
    cases j with
    | zero => simp at h; subst h; simp [rebR, lenR_nil]
    | succ j =>
      simp at h
      simp only [rebR, List.getElem?_cons_succ, List.take_succ_cons, lenR_cons]
      rw [ih _ j x h]
      simp only [Nat.add_assoc]
/-- the runs moved together -/
def reb : Nat → List (List Ent) → List (List Ent)
  | _, [] => []
  | p, r :: t => rebR p r :: reb (p + lenR r) t
theorem reb_append (a b : List (List Ent)) : ∀ p, reb p (a ++ b) = reb p a ++ reb (p + lenR a.flatten) b := by
  induction a with
  | nil => intro p; simp [reb, lenR_nil]
  | cons x t ih => intro p; simp only [List.cons_append, reb, ih, List.flatten_cons, lenR_append]; rw [Nat.add_assoc]
theorem reb_length (l : List (List Ent)) : ∀ p, (reb p l).length = l.length := by
  induction l with
  | nil => intro p; rfl
  | cons x t ih => intro p; simp [reb, ih]
theorem reb_flatten (l : List (List Ent)) : ∀ p, (reb p l).flatten = rebR p l.flatten := by
  induction l with
  | nil => intro p; rfl
  | cons x t ih => intro p; simp only [reb, List.flatten_cons, ih, rebR_append]
theorem reb_map_length (l : List (List Ent)) : ∀ p, (reb p l).map List.length = l.map List.length := by
  induction l with
  | nil => intro p; rfl
  | cons x t ih => intro p; simp [reb, ih, rebR_length]
end Go.Proofs.Ybulkddve.Plain
