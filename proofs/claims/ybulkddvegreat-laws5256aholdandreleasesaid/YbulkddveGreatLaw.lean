/-
  The walk of 'LawS5256AHoldAndRelease'.
-/
import Derived.Test.YbulkddveGreatWalks
namespace Go.Proofs.YbulkddveGreat.Law
open Go.ChangeShapes Go.WideShapes Go.ChangeAt Go.RowKit Mg Walks
set_option maxRecDepth 100000

/-- the loop's invariant -/
structure Inv (w wr : World) (ch : Int) : Prop where
  mgr : Mgr wr (w.heap.size + 1 + 1 + 1 + 1 + 1) 0 0 0 0 0 0 0 0 ch (.map (some w.heap.size)) (.map (some (w.heap.size + 1 + 1)))
  below : Below w.heap.size w wr
  size : w.heap.size + 1 + 1 + 1 + 1 + 1 < wr.heap.size
  ma : wr.heap[w.heap.size]? = some (.map #[] 0)
  mg : wr.heap[w.heap.size + 1 + 1]? = some (.map #[] 0)
theorem Inv.keep {w wr wx : World} {ch : Int} (i : Inv w wr ch) (k : Keep (w.heap.size + 1 + 1 + 1 + 1 + 1) wr wx) (m : Mgr wx (w.heap.size + 1 + 1 + 1 + 1 + 1) 0 0 0 0 0 0 0 0 ch (.map (some w.heap.size)) (.map (some (w.heap.size + 1 + 1)))) : Inv w wx ch := by
  have z := i.size
  exact ⟨m, i.below.trans (k.below (by omega) (by omega)), Nat.lt_of_lt_of_le z k.size, (k.block _ (by omega) (by omega)).trans i.ma, (k.block _ (by omega) (by omega)).trans i.mg⟩

theorem Mgr.setCh {w : World} {M : Nat} {s3 s7 s10 s12 s15 s19 s24 s27 ch : Int} {ma mg : Value} (h : Mgr w M s3 s7 s10 s12 s15 s19 s24 s27 ch ma mg) (x : Int) : Mgr (w.setCell ⟨M, 11, none⟩ (.int .u64 x)) M s3 s7 s10 s12 s15 s19 s24 s27 x ma mg :=
  ⟨by simpa using h.lt, (World.cell?_setCell_other _ _ _ _ (by simp)).trans h.c3, (World.cell?_setCell_other _ _ _ _ (by simp)).trans h.c7, (World.cell?_setCell_other _ _ _ _ (by simp)).trans h.c10, (World.cell?_setCell_other _ _ _ _ (by simp)).trans h.c12, (World.cell?_setCell_other _ _ _ _ (by simp)).trans h.c15,
    (World.cell?_setCell_other _ _ _ _ (by simp)).trans h.c19, (World.cell?_setCell_other _ _ _ _ (by simp)).trans h.c24, (World.cell?_setCell_other _ _ _ _ (by simp)).trans h.c27, (World.cell?_setCell_other _ _ _ _ (by simp)).trans h.c5, (World.cell?_setCell_other _ _ _ _ (by simp)).trans h.c6, (World.cell?_setCell_other _ _ _ _ (by simp)).trans h.c17,
    (World.cell?_setCell_other _ _ _ _ (by simp)).trans h.c18, World.cell?_setCell_same _ _ _ h.c11, (World.cell?_setCell_other _ _ _ _ (by simp)).trans h.c14, (World.cell?_setCell_other _ _ _ _ (by simp)).trans h.c26, (World.cell?_setCell_other _ _ _ _ (by simp)).trans h.c29, fun o => by rw [World.frozen?_setCell]; exact h.fz o⟩

set_option maxHeartbeats 2000000 in
theorem walk (r ch : Int) (w : World) (r1 : 0 ≤ r) (r2 : r ≤ 255) :
    Calls Ybaz.prog 3 #[.int .u8 r, .int .u64 ch] w fun e w' => e = .returned (.bool true) ∧ Below w.heap.size w w' := by
  obtain ⟨n, hn⟩ : ∃ n : Nat, r % 8 + 1 = (n : Int) := ⟨(r % 8 + 1).toNat, by omega⟩
  have hn8 : n ≤ 8 := by omega
  go_enter Ybaz.func3, Ybaz.ntmps3
  go_wp2_with fail
  refine (anew w).mono ?_
  rintro e w1 ⟨rfl, h1, b1, ma1, mg1⟩
  have c11 := h1.c11
  have fz := h1.fz
  go_wp2_with fail
  have lt1 := h1.lt
  have I1 : Inv w (w1.setCell ⟨w.heap.size + 1 + 1 + 1 + 1 + 1, 11, none⟩ (.int .u64 ch)) ch :=
    ⟨Mgr.setCh h1 ch, b1.setCell (p := ⟨w.heap.size + 1 + 1 + 1 + 1 + 1, 11, none⟩) (by show w.heap.size ≤ w.heap.size + 1 + 1 + 1 + 1 + 1; omega) _, by simpa using lt1, (Below.heap_setCell _ _ _ _ (by show w.heap.size ≠ w.heap.size + 1 + 1 + 1 + 1 + 1; omega)).trans ma1, (Below.heap_setCell _ _ _ _ (by show w.heap.size + 1 + 1 ≠ w.heap.size + 1 + 1 + 1 + 1 + 1; omega)).trans mg1⟩
  clear c11 fz h1 b1 ma1 mg1 lt1
  refine (allfree I1.mgr).mono ?_
  rintro e w2 ⟨rfl, h2, k2⟩
  have HI := Inv.keep I1 k2 h2
  clear I1 h2 k2
  go_wp2_with fail
  go_loopw [7] (fun i wr => ∃ k : Nat, k ≤ n ∧ i = .int .i64 k ∧ Inv w wr ch) (fun i _ => n - (intOf i).toNat)
  case atStart => exact ⟨0, Nat.zero_le _, rfl, HI⟩
  case round =>
    obtain ⟨k, hk, rfl, A⟩ := hrel
    by_cases hlt : k < n
    · have hlt' : (k : Int) < (n : Int) := by omega
      go_wp2_with fail
      refine (exclusive A.mgr).mono ?_
      rintro e w3 ⟨C, B, D, rfl, h3, k3, R3⟩
      go_wp2_with fail
      refine (allheld h3).mono ?_
      rintro e w4 ⟨rfl, h4, k4⟩
      have R4 := R3.keep k4
      have kk4 := k3.trans k4
      clear h3 k3 R3 k4
      go_wp2_with fail
      refine (exclusive1 h4 R4).mono ?_
      rintro e w5 ⟨rfl, h5, k5⟩
      have kk5 := kk4.trans k5
      clear h4 R4 kk4 k5
      go_wp2_with fail
      refine (allfree h5).mono ?_
      rintro e w6 ⟨rfl, h6, k6⟩
      have A6 := Inv.keep A (kk5.trans k6) h6
      clear h5 kk5 k6 h6 A HI
      go_wp2
      go_roundw
      case rel => exact ⟨k + 1, by omega, by go_num, A6⟩
      case measure => simp [intOf]; omega
    · have hlt' : ¬ (k : Int) < (n : Int) := by omega
      have c11 := A.mgr.c11; have c14 := A.mgr.c14; have c26 := A.mgr.c26; have c29 := A.mgr.c29
      have l1 := len_map _ _ A.ma
      have l2 := len_map _ _ A.mg
      go_wp2
      go_ret
      exact ⟨rfl, A.below⟩
end Go.Proofs.YbulkddveGreat.Law
