/-
  For the checking loops of the law: a slice of the gathered bytes; an entry of a gathered run.
-/
import Derived.Test.YbulkddveClone
namespace Go.Proofs.Ybulkddve.Law
open Go.ChangeShapes Go.WideShapes Go.ChangeAt Go.RowKit Own Plain Parts Runs Gather
set_option maxRecDepth 100000


theorem slice_run (g n c a e : Nat) (h1 : a ≤ e) (h2 : e ≤ n) (h3 : n ≤ c) :
    ∃ o : Nat, (∀ w : World, (Instr.slice 23 (.slice (some ⟨g, 0, none⟩) n c) (some (.int .i64 a)) (some (.int .i64 e)) none).run Yba.prog w = .ok (.slice (some ⟨g, o, none⟩) (e - a) (c - a)) w) ∧ (a < e → o = a) := by
  have b1 : (a : Int) ≤ (e : Int) := by omega
  have b3 : (e : Int) ≤ (c : Int) := by omega
  have b4 : (0 : Int) ≤ (a : Int) := by omega
  by_cases hc : c - a = 0
  · refine ⟨0, fun w => ?_, fun h => by omega⟩
    simp [Instr.slice, go_sem, b3, b4, hc]
    rw [if_pos h1, if_pos (by omega)]
  · refine ⟨a, fun w => ?_, fun _ => rfl⟩
    simp [Instr.slice, go_sem, b3, b4]
    rw [if_pos h1, if_neg (by omega)]

theorem slice_lies {wx : World} {N : Nat} {vg : Value} {W : List Int} (hown : wx.ownsRow N 5 1 vg W.length (W.map (Value.int .u8))) (a e : Nat) (h1 : a ≤ e) (h2 : e ≤ W.length) :
    ∃ u, (∀ w : World, (Instr.slice 23 vg (some (.int .i64 a)) (some (.int .i64 e)) none).run Yba.prog w = .ok u w) ∧ Lies wx u ((W.drop a).take (e - a)) := by
  rcases own_shape hown with ⟨rfl, h0, hx⟩ | ⟨g, c, rfl, hc, hcm, hob, hg, hNg, hcells, hfz⟩
  · have ha : a = 0 := by omega
    have he : e = 0 := by omega
    subst ha he
    exact ⟨.slice none 0 0, fun w => by kernel_rfl, .inl ⟨rfl, by simp⟩⟩
  · obtain ⟨o, hrun, ho⟩ := slice_run g W.length c a e h1 h2 hc
    have hl : ((W.drop a).take (e - a)).length = e - a := by simp; omega
    refine ⟨_, hrun, .inr ⟨g, o, c - a, by rw [hl], fun i hi => ?_⟩⟩
    rw [hl] at hi
    rw [ho (by omega)]
    apply hcells
    have : (a + i) < W.length := by omega
    simp [List.getD_eq_getElem?_getD, List.getElem?_drop, hi, this]

theorem getB_cut {B : List Int} {Es : List Ent} (hin : ∀ x ∈ Es, In B x) {n : Nat} {x : Ent} (hx : Es[n]? = some x) : ((getB B Es).drop (lenR (Es.take n))).take (len1 x) = cut1 B x ∧ lenR (Es.take n) + len1 x ≤ (getB B Es).length := by
  obtain ⟨h3, e3⟩ := List.getElem?_eq_some_iff.1 hx
  have a3 : Es.drop n = x :: Es.drop (n + 1) := by rw [List.drop_eq_getElem_cons h3, e3]
  have a4 : Es = Es.take n ++ x :: Es.drop (n + 1) := by rw [← a3, List.take_append_drop]
  have hi1 : ∀ y ∈ Es.take n, In B y := fun y hy => hin y (List.mem_of_mem_take hy)
  have hix : In B x := hin x (List.mem_of_getElem? hx)
  have hl := getB_length _ hi1
  have hlx := cut1_length hix
  have e : getB B Es = getB B (Es.take n) ++ (cut1 B x ++ getB B (Es.drop (n + 1))) := by
    conv => lhs; rw [a4]
    rw [getB_append]
    simp [getB]
  constructor
  · rw [e, ← hl, List.drop_left, ← hlx, List.take_left]
  · rw [e]; simp; omega

theorem reb_get (Rs : List (List Ent)) : ∀ (p a : Nat) (r : List Ent), Rs[a]? = some r → (reb p Rs)[a]? = some (rebR (p + lenR (Rs.take a).flatten) r) := by
  induction Rs with
  | nil => intro p a r h; simp at h
  | cons y t ih =>
    intro p a r h
    cases a with
    | zero => simp at h; subst h; simp [reb, lenR_nil]
    | succ a =>
      simp at h
      simp only [reb, List.getElem?_cons_succ, List.take_succ_cons, List.flatten_cons, lenR_append]
      rw [ih _ a r h, Nat.add_assoc]
end Go.Proofs.Ybulkddve.Law
