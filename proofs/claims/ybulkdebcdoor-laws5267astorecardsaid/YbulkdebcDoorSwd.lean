/-
  (*response).SetWriteDeadline: its two contracts.
-/
import Derived.Test.YbulkdebcDoorRows
import Derived.Test.YbulkdebcDoorTry
import Derived.Test.YbulkdebcDoorTimeAdd
import Derived.Conc.MuLone
import Derived.WalkKit
import Derived.WalkLawsBesides
import Derived.ProofKit
import Derived.Deep.QuietTactic
import Derived.BigQuiet
namespace Go.Proofs.YbulkdebcDoor.Swd
open Go.ChangeShapes Go.WideShapes Go.ChangeAt Go.RowKit Go.MuLone TimeAdd Try

/-- What SetWriteDeadline turns, on a connection at block cb. -/
structure Upd (w w1 : World) (cb : Nat) (x y : Int) : Prop where
  other : ∀ b o, b ≠ cb → b < w.heap.size → w1.cell? ⟨b, o, none⟩ = w.cell? ⟨b, o, none⟩
  keep : ∀ o, o ≠ 12 → o ≠ 39 → o ≠ 40 → o ≠ 41 → o ≠ 43 → w1.cell? ⟨cb, o, none⟩ = w.cell? ⟨cb, o, none⟩
  c12 : w1.cell? ⟨cb, 12, none⟩ = some (.int .i32 0)
  c39 : w1.cell? ⟨cb, 39, none⟩ = some (.int .u64 x)
  c40 : w1.cell? ⟨cb, 40, none⟩ = some (.int .i64 y)
  c41 : w1.cell? ⟨cb, 41, none⟩ = some (.pointer none)
  c43 : w1.cell? ⟨cb, 43, none⟩ = some (.bool true)
  fz : ∀ o, w1.frozen? ⟨cb, o, none⟩ = false
  below : ∀ N, N ≤ cb → Below N w w1

set_option maxRecDepth 100000 in
theorem swd_hijacked (rb cb : Nat) (x y : Int) (g : Value) (w : World) (h0 : w.cell? ⟨rb, 0, none⟩ = some (.pointer (some ⟨cb, 0, none⟩))) (hh : w.cell? ⟨cb, 48, none⟩ = some (.bool true))
    (hg : w.cell? ⟨0, 0, none⟩ = some g) (l1 : rb < w.heap.size) (l2 : cb < w.heap.size) (l3 : 0 < w.heap.size) :
    Calls Ybad.prog 5 #[.pointer (some ⟨rb, 0, none⟩), .agg #[.int .u64 x, .int .i64 y, .pointer none]] w fun e w' => e = .returned g ∧ w' = w.alloc (.cells #[.int .u64 x, .int .i64 y, .pointer none] 25) := by
  go_enter_defers Ybad.func5, Ybad.ntmps5
  go_wp2
  exact ⟨_, results_tmp rfl _ _ _, rfl, rfl⟩

theorem upd_of (w : World) (cb : Nat) (x y : Int) (v39 v40 v41 v43 : Value) (o : Obj) (l2 : cb < w.heap.size) (h12 : w.cell? ⟨cb, 12, none⟩ = some (.int .i32 0)) (f : ∀ o, w.frozen? ⟨cb, o, none⟩ = false)
    (h39 : w.cell? ⟨cb, 39, none⟩ = some v39) (h40 : w.cell? ⟨cb, 40, none⟩ = some v40) (h41 : w.cell? ⟨cb, 41, none⟩ = some v41) (h43 : w.cell? ⟨cb, 43, none⟩ = some v43) :
    Upd w (((((((w.setCell ⟨cb, 12, none⟩ (.int .i32 1)).setCell ⟨cb, 39, none⟩ (.int .u64 x)).setCell ⟨cb, 40, none⟩ (.int .i64 y)).setCell ⟨cb, 41, none⟩ (.pointer none)).setCell ⟨cb, 43, none⟩ (.bool true)).alloc o).setCell ⟨cb, 12, none⟩ (.int .i32 0)) cb x y := by
  have past : ∀ (w' : World) b i, b < w'.heap.size → (w'.alloc o).cell? ⟨b, i, none⟩ = w'.cell? ⟨b, i, none⟩ := fun w' b i h => World.cell?_alloc_past o b i h
  refine ⟨?_, ?_, ?_, ?_, ?_, ?_, ?_, ?_, ?_⟩
  · intro b i hb hl
    have hne : ∀ j, (⟨cb, j, none⟩ : Addr) ≠ ⟨b, i, none⟩ := fun j e => hb (by injection e with e1; exact e1.symm)
    rw [World.cell?_setCell_other _ _ _ _ (hne _), past _ _ _ (by simpa using hl), World.cell?_setCell_other _ _ _ _ (hne _), World.cell?_setCell_other _ _ _ _ (hne _), World.cell?_setCell_other _ _ _ _ (hne _), World.cell?_setCell_other _ _ _ _ (hne _), World.cell?_setCell_other _ _ _ _ (hne _)]
  · intro i n12 n39 n40 n41 n43
    have hne : ∀ j, i ≠ j → (⟨cb, j, none⟩ : Addr) ≠ ⟨cb, i, none⟩ := fun j h e => h (by injection e with _ e2; exact e2.symm)
    rw [World.cell?_setCell_other _ _ _ _ (hne _ n12), past _ _ _ (by simpa using l2), World.cell?_setCell_other _ _ _ _ (hne _ n43), World.cell?_setCell_other _ _ _ _ (hne _ n41), World.cell?_setCell_other _ _ _ _ (hne _ n40), World.cell?_setCell_other _ _ _ _ (hne _ n39), World.cell?_setCell_other _ _ _ _ (hne _ n12)]
  · refine World.cell?_setCell_same (u := .int .i32 1) _ _ _ ?_
    rw [past _ _ _ (by simpa using l2), World.cell?_setCell_other _ _ _ _ (by simp), World.cell?_setCell_other _ _ _ _ (by simp), World.cell?_setCell_other _ _ _ _ (by simp), World.cell?_setCell_other _ _ _ _ (by simp)]
    exact World.cell?_setCell_same _ _ _ h12
  · rw [World.cell?_setCell_other _ _ _ _ (by simp), past _ _ _ (by simpa using l2), World.cell?_setCell_other _ _ _ _ (by simp), World.cell?_setCell_other _ _ _ _ (by simp), World.cell?_setCell_other _ _ _ _ (by simp)]
    refine World.cell?_setCell_same (u := v39) _ _ _ ?_
    rw [World.cell?_setCell_other _ _ _ _ (by simp)]; exact h39
  · rw [World.cell?_setCell_other _ _ _ _ (by simp), past _ _ _ (by simpa using l2), World.cell?_setCell_other _ _ _ _ (by simp), World.cell?_setCell_other _ _ _ _ (by simp)]
    refine World.cell?_setCell_same (u := v40) _ _ _ ?_
    rw [World.cell?_setCell_other _ _ _ _ (by simp), World.cell?_setCell_other _ _ _ _ (by simp)]; exact h40
  · rw [World.cell?_setCell_other _ _ _ _ (by simp), past _ _ _ (by simpa using l2), World.cell?_setCell_other _ _ _ _ (by simp)]
    refine World.cell?_setCell_same (u := v41) _ _ _ ?_
    rw [World.cell?_setCell_other _ _ _ _ (by simp), World.cell?_setCell_other _ _ _ _ (by simp), World.cell?_setCell_other _ _ _ _ (by simp)]; exact h41
  · rw [World.cell?_setCell_other _ _ _ _ (by simp), past _ _ _ (by simpa using l2)]
    refine World.cell?_setCell_same (u := v43) _ _ _ ?_
    rw [World.cell?_setCell_other _ _ _ _ (by simp), World.cell?_setCell_other _ _ _ _ (by simp), World.cell?_setCell_other _ _ _ _ (by simp), World.cell?_setCell_other _ _ _ _ (by simp)]; exact h43
  · intro i
    simp only [World.frozen?_setCell]
    rw [World.frozen?_alloc_past o cb i (by simpa using l2)]
    simp only [World.frozen?_setCell]
    exact f i
  · intro N hN
    exact ((((((((Below.refl N w).setCell hN _).setCell hN _).setCell hN _).setCell hN _).setCell hN _).alloc (by simp; omega) _).setCell hN _)

set_option maxRecDepth 100000 in
theorem swd_set (rb cb : Nat) (x y : Int) (v39 v40 v41 v43 : Value) (w : World) (h0 : w.cell? ⟨rb, 0, none⟩ = some (.pointer (some ⟨cb, 0, none⟩))) (hh : w.cell? ⟨cb, 48, none⟩ = some (.bool false))
    (h12 : w.cell? ⟨cb, 12, none⟩ = some (.int .i32 0)) (f : ∀ o, w.frozen? ⟨cb, o, none⟩ = false)
    (h39 : w.cell? ⟨cb, 39, none⟩ = some v39) (h40 : w.cell? ⟨cb, 40, none⟩ = some v40) (h41 : w.cell? ⟨cb, 41, none⟩ = some v41) (h43 : w.cell? ⟨cb, 43, none⟩ = some v43)
    (l1 : rb < w.heap.size) (l2 : cb < w.heap.size) :
    Calls Ybad.prog 5 #[.pointer (some ⟨rb, 0, none⟩), .agg #[.int .u64 x, .int .i64 y, .pointer none]] w fun e w' => e = .returned .nilIface ∧ Upd w w' cb x y := by
  have c12 : ∀ o, (w.alloc o).cell? ⟨cb, 12, none⟩ = some (.int .i32 0) := fun o => (World.cell?_alloc_past o cb 12 l2).trans h12
  have fz : ∀ o i, (w.alloc o).frozen? ⟨cb, i, none⟩ = false := fun o i => (World.frozen?_alloc_past o cb i l2).trans (f i)
  have c39 : ∀ o, (w.alloc o).cell? ⟨cb, 39, none⟩ = some v39 := fun o => (World.cell?_alloc_past o cb 39 l2).trans h39
  have c40 : ∀ o, (w.alloc o).cell? ⟨cb, 40, none⟩ = some v40 := fun o => (World.cell?_alloc_past o cb 40 l2).trans h40
  have c41 : ∀ o, (w.alloc o).cell? ⟨cb, 41, none⟩ = some v41 := fun o => (World.cell?_alloc_past o cb 41 l2).trans h41
  have c43 : ∀ o, (w.alloc o).cell? ⟨cb, 43, none⟩ = some v43 := fun o => (World.cell?_alloc_past o cb 43 l2).trans h43
  go_enter_defers Ybad.func5, Ybad.ntmps5
  go_wp2_with (go_at_call 12; refine (lock_free Ybad.muLib ⟨cb, 12, none⟩ _ (c12 _) (fz _ _)).mono ?_; rintro e w' ⟨rfl, rfl⟩)
  refine leaves_cons (f := 7) (args := #[.pointer (some ⟨cb, 12, none⟩)]) (by simp) (by simp [go_sem]) ?_
  refine (unlock_deferred Ybad.muLib ⟨cb, 12, none⟩ .returning _ ?_ ?_).mono ?_
  · rw [World.cell?_alloc_past _ cb 12 (by simpa using l2), World.cell?_setCell_other _ _ _ _ (by simp), World.cell?_setCell_other _ _ _ _ (by simp), World.cell?_setCell_other _ _ _ _ (by simp), World.cell?_setCell_other _ _ _ _ (by simp)]
    exact World.cell?_setCell_same _ _ _ h12
  · rw [World.frozen?_alloc_past _ cb 12 (by simpa using l2)]; simp [f]
  rintro e u' w'' ⟨rfl, rfl, rfl⟩
  exact ⟨_, results_tmp rfl _ _ _, rfl, upd_of w cb x y v39 v40 v41 v43 _ l2 h12 f h39 h40 h41 h43⟩
end Go.Proofs.YbulkdebcDoor.Swd
