/-
  The walk of 'LawS5267AStore', a way each for a hijacked connection and for a free one.
-/
import Derived.Test.YbulkdebcDoorSwd
import Derived.LaidEqlPtr
import Derived.WalkSmall
namespace Go.Proofs.YbulkdebcDoor.Store
open Go.ChangeShapes Go.WideShapes Go.ChangeAt Go.RowKit Go.MuLone TimeAdd Try Swd

theorem eqp (d : Nat) (w : World) : (Op.equalIn (d + 1) 23 (.pointer none) (.pointer none)).run Ybad.prog w = .ok true w := by
  simp [Op.equalIn, run_underlying Ybad.underlying23]
theorem eq25 (a b : Int) (w : World) : (Op.equalIn 10000 25 (.agg #[.int .u64 a, .int .i64 b, .pointer none]) (.agg #[.int .u64 a, .int .i64 b, .pointer none])).run Ybad.prog w = .ok true w := by
  have hS : Ybad.prog.underlying 25 = some (.struct (Ybad.prog.fieldsOf 25)) := by kernel_rfl
  have hp : Ybad.prog.stoodInHeld 25 = false := by kernel_rfl
  have he : ∀ w, (Op.equalIn 9999 23 (.pointer none) (.pointer none)).run Ybad.prog w = .ok true w := eqp 9998
  rw [show (10000 : Nat) = 9999 + 1 from rfl, run_equalIn_agg w 9999 25 _ _ hS hp]
  simp only [Program.fieldsOf, Ybad.underlying25]
  go_simp
theorem room58 : ∃ j, Ybad.prog.info? 58 = some j := by
  have h : (Ybad.prog.info? 58).isSome = true := by kernel_rfl
  exact Option.isSome_iff_exists.1 h
theorem neq28 (a : Addr) (w : World) : (binOp .neq 28 (.pointer (some a)) (.pointer (some a))).run Ybad.prog w = .ok (.bool false) w := by
  obtain ⟨j, hj⟩ := room58
  have h : ∀ d : Nat, (Op.equalIn (d + 1) 28 (.pointer (some a)) (.pointer (some a))).run Ybad.prog w = .ok true w := fun d => by
    simp [Op.equalIn, run_underlying Ybad.underlying28, sizeOf, typeInfo, hj, run_sameAddr_same]
  simp only [binOp]
  simp [Op.equal, Op.maxDepth, h 9999]

set_option maxRecDepth 100000 in
set_option maxHeartbeats 4000000 in
theorem walk_free (n prev readN : Int) (pset rset : Bool) (w : World) (n1 : -9223372036854775808 ≤ n) (n2 : n ≤ 9223372036854775807) (p1 : -9223372036854775808 ≤ prev) (p2 : prev ≤ 9223372036854775807) (r1 : -9223372036854775808 ≤ readN) (r2 : readN ≤ 9223372036854775807) :
    Calls Ybad.prog 3 #[.bool false, .int .i64 n, .int .i64 prev, .bool pset, .int .i64 readN, .bool rset] w fun e w' => e = .returned (.bool true) ∧ Below w.heap.size w w' := by
  go_enter Ybad.func3, Ybad.ntmps3
  go_wp2_with fail
  refine (add_zero n _ n1 n2).mono ?_
  rintro e w' ⟨tx, ty, rfl, tx1, tx2, rfl⟩
  go_wp2_with fail
  refine (add_zero prev _ p1 p2).mono ?_
  rintro e w' ⟨px, py, rfl, px1, px2, rfl⟩
  go_wp2_with fail
  refine (add_zero readN _ r1 r2).mono ?_
  rintro e w' ⟨rx, ry, rfl, rx1, rx2, rfl⟩
  clear n1 n2 p1 p2 r1 r2 tx1 tx2 px1 px2 rx1 rx2
  go_wp2_with fail
  refine (swd_set (w.heap.size + 1 + 1 + 1 + 1 + 1 + 1 + 1 + 1 + 1 + 1) (w.heap.size + 1 + 1 + 1 + 1 + 1 + 1 + 1 + 1 + 1) tx ty (.int .u64 px) (.int .i64 py) (.pointer none) (.bool pset) _ (by simp [go_sem]) (by simp [go_sem]) (by simp [go_sem]) (fun o => by simp [go_sem]) (by simp [go_sem]) (by simp [go_sem]) (by simp [go_sem]) (by simp [go_sem]) (by simp) (by simp)).mono ?_
  rintro e w1 ⟨rfl, U⟩
  have B1 : Below w.heap.size w w1 := Below.trans ((((((((((((((((((((((Below.refl _ _).alloc (by simp) _)).alloc (by simp) _)).alloc (by simp; omega) _)).alloc (by simp; omega) _)).alloc (by simp; omega) _)).alloc (by simp; omega) _)).alloc (by simp; omega) _)).alloc (by simp; omega) _)).alloc (by simp; omega) _)).alloc (by simp; omega) _)).alloc (by simp; omega) _) (U.below w.heap.size (by omega))
  have t0 : w1.cell? ⟨w.heap.size + 1 + 1, 0, none⟩ = some (.int .u64 tx) := (U.other _ 0 (by omega) (by simp)).trans (by simp [go_sem])
  have t1 : w1.cell? ⟨w.heap.size + 1 + 1, 1, none⟩ = some (.int .i64 ty) := (U.other _ 1 (by omega) (by simp)).trans (by simp [go_sem])
  have t2 : w1.cell? ⟨w.heap.size + 1 + 1, 2, none⟩ = some (.pointer none) := (U.other _ 2 (by omega) (by simp)).trans (by simp [go_sem])
  have p0 : w1.cell? ⟨w.heap.size + 1 + 1 + 1 + 1 + 1, 0, none⟩ = some (.int .u64 px) := (U.other _ 0 (by omega) (by simp)).trans (by simp [go_sem])
  have p1 : w1.cell? ⟨w.heap.size + 1 + 1 + 1 + 1 + 1, 1, none⟩ = some (.int .i64 py) := (U.other _ 1 (by omega) (by simp)).trans (by simp [go_sem])
  have p2 : w1.cell? ⟨w.heap.size + 1 + 1 + 1 + 1 + 1, 2, none⟩ = some (.pointer none) := (U.other _ 2 (by omega) (by simp)).trans (by simp [go_sem])
  have r0 : w1.cell? ⟨w.heap.size + 1 + 1 + 1 + 1 + 1 + 1 + 1 + 1, 0, none⟩ = some (.int .u64 rx) := (U.other _ 0 (by omega) (by simp)).trans (by simp [go_sem])
  have r1 : w1.cell? ⟨w.heap.size + 1 + 1 + 1 + 1 + 1 + 1 + 1 + 1, 1, none⟩ = some (.int .i64 ry) := (U.other _ 1 (by omega) (by simp)).trans (by simp [go_sem])
  have r2 : w1.cell? ⟨w.heap.size + 1 + 1 + 1 + 1 + 1 + 1 + 1 + 1, 2, none⟩ = some (.pointer none) := (U.other _ 2 (by omega) (by simp)).trans (by simp [go_sem])
  have c36 : w1.cell? ⟨w.heap.size + 1 + 1 + 1 + 1 + 1 + 1 + 1 + 1 + 1, 36, none⟩ = some (.int .u64 rx) := (U.keep 36 (by decide) (by decide) (by decide) (by decide) (by decide)).trans (by simp [go_sem])
  have c37 : w1.cell? ⟨w.heap.size + 1 + 1 + 1 + 1 + 1 + 1 + 1 + 1 + 1, 37, none⟩ = some (.int .i64 ry) := (U.keep 37 (by decide) (by decide) (by decide) (by decide) (by decide)).trans (by simp [go_sem])
  have c38 : w1.cell? ⟨w.heap.size + 1 + 1 + 1 + 1 + 1 + 1 + 1 + 1 + 1, 38, none⟩ = some (.pointer none) := (U.keep 38 (by decide) (by decide) (by decide) (by decide) (by decide)).trans (by simp [go_sem])
  have c39 : w1.cell? ⟨w.heap.size + 1 + 1 + 1 + 1 + 1 + 1 + 1 + 1 + 1, 39, none⟩ = some (.int .u64 tx) := U.c39
  have c40 : w1.cell? ⟨w.heap.size + 1 + 1 + 1 + 1 + 1 + 1 + 1 + 1 + 1, 40, none⟩ = some (.int .i64 ty) := U.c40
  have c41 : w1.cell? ⟨w.heap.size + 1 + 1 + 1 + 1 + 1 + 1 + 1 + 1 + 1, 41, none⟩ = some (.pointer none) := U.c41
  have c42 : w1.cell? ⟨w.heap.size + 1 + 1 + 1 + 1 + 1 + 1 + 1 + 1 + 1, 42, none⟩ = some (.bool rset) := (U.keep 42 (by decide) (by decide) (by decide) (by decide) (by decide)).trans (by simp [go_sem])
  have c43 : w1.cell? ⟨w.heap.size + 1 + 1 + 1 + 1 + 1 + 1 + 1 + 1 + 1, 43, none⟩ = some (.bool true) := U.c43
  have c48 : w1.cell? ⟨w.heap.size + 1 + 1 + 1 + 1 + 1 + 1 + 1 + 1 + 1, 48, none⟩ = some (.bool false) := (U.keep 48 (by decide) (by decide) (by decide) (by decide) (by decide)).trans (by simp [go_sem])
  have q0 : w1.cell? ⟨w.heap.size + 1 + 1 + 1 + 1 + 1 + 1 + 1 + 1 + 1 + 1, 0, none⟩ = some (.pointer (some ⟨w.heap.size + 1 + 1 + 1 + 1 + 1 + 1 + 1 + 1 + 1, 0, none⟩)) := (U.other _ 0 (by omega) (by simp)).trans (by simp [go_sem])
  have c12 := U.c12
  have f12 := U.fz 12
  clear U
  go_wp2_with fail
  refine (try_free ⟨w.heap.size + 1 + 1 + 1 + 1 + 1 + 1 + 1 + 1 + 1, 12, none⟩ _ c12 f12).mono ?_
  rintro e w2 ⟨rfl, hw2⟩
  have d12 : w2.cell? ⟨w.heap.size + 1 + 1 + 1 + 1 + 1 + 1 + 1 + 1 + 1, 12, none⟩ = some (.int .i32 1) := by rw [hw2]; exact World.cell?_setCell_same _ _ _ c12
  have g12 : w2.frozen? ⟨w.heap.size + 1 + 1 + 1 + 1 + 1 + 1 + 1 + 1 + 1, 12, none⟩ = false := by rw [hw2]; simpa using f12
  have HW2 : Hid (w2 = w1.setCell ⟨w.heap.size + 1 + 1 + 1 + 1 + 1 + 1 + 1 + 1 + 1, 12, none⟩ (.int .i32 1)) := hw2
  clear hw2
  go_wp2_with fail
  refine (unlock_held Ybad.muLib ⟨w.heap.size + 1 + 1 + 1 + 1 + 1 + 1 + 1 + 1 + 1, 12, none⟩ _ d12 g12).mono ?_
  rintro e w3 ⟨rfl, hw3⟩
  have hw2 := HW2.out
  have B3 : Below w.heap.size w w3 := by rw [hw3, hw2]; exact (B1.setCell (by simp; omega) _).setCell (by simp; omega) _
  have et0 : w3.cell? ⟨w.heap.size + 1 + 1, 0, none⟩ = some (.int .u64 tx) := by rw [hw3, hw2, World.cell?_setCell_other _ _ _ _ (by simp), World.cell?_setCell_other _ _ _ _ (by simp)]; exact t0
  have et1 : w3.cell? ⟨w.heap.size + 1 + 1, 1, none⟩ = some (.int .i64 ty) := by rw [hw3, hw2, World.cell?_setCell_other _ _ _ _ (by simp), World.cell?_setCell_other _ _ _ _ (by simp)]; exact t1
  have et2 : w3.cell? ⟨w.heap.size + 1 + 1, 2, none⟩ = some (.pointer none) := by rw [hw3, hw2, World.cell?_setCell_other _ _ _ _ (by simp), World.cell?_setCell_other _ _ _ _ (by simp)]; exact t2
  have ep0 : w3.cell? ⟨w.heap.size + 1 + 1 + 1 + 1 + 1, 0, none⟩ = some (.int .u64 px) := by rw [hw3, hw2, World.cell?_setCell_other _ _ _ _ (by simp), World.cell?_setCell_other _ _ _ _ (by simp)]; exact p0
  have ep1 : w3.cell? ⟨w.heap.size + 1 + 1 + 1 + 1 + 1, 1, none⟩ = some (.int .i64 py) := by rw [hw3, hw2, World.cell?_setCell_other _ _ _ _ (by simp), World.cell?_setCell_other _ _ _ _ (by simp)]; exact p1
  have ep2 : w3.cell? ⟨w.heap.size + 1 + 1 + 1 + 1 + 1, 2, none⟩ = some (.pointer none) := by rw [hw3, hw2, World.cell?_setCell_other _ _ _ _ (by simp), World.cell?_setCell_other _ _ _ _ (by simp)]; exact p2
  have er0 : w3.cell? ⟨w.heap.size + 1 + 1 + 1 + 1 + 1 + 1 + 1 + 1, 0, none⟩ = some (.int .u64 rx) := by rw [hw3, hw2, World.cell?_setCell_other _ _ _ _ (by simp), World.cell?_setCell_other _ _ _ _ (by simp)]; exact r0
  have er1 : w3.cell? ⟨w.heap.size + 1 + 1 + 1 + 1 + 1 + 1 + 1 + 1, 1, none⟩ = some (.int .i64 ry) := by rw [hw3, hw2, World.cell?_setCell_other _ _ _ _ (by simp), World.cell?_setCell_other _ _ _ _ (by simp)]; exact r1
  have er2 : w3.cell? ⟨w.heap.size + 1 + 1 + 1 + 1 + 1 + 1 + 1 + 1, 2, none⟩ = some (.pointer none) := by rw [hw3, hw2, World.cell?_setCell_other _ _ _ _ (by simp), World.cell?_setCell_other _ _ _ _ (by simp)]; exact r2
  have ec36 : w3.cell? ⟨w.heap.size + 1 + 1 + 1 + 1 + 1 + 1 + 1 + 1 + 1, 36, none⟩ = some (.int .u64 rx) := by rw [hw3, hw2, World.cell?_setCell_other _ _ _ _ (by simp), World.cell?_setCell_other _ _ _ _ (by simp)]; exact c36
  have ec37 : w3.cell? ⟨w.heap.size + 1 + 1 + 1 + 1 + 1 + 1 + 1 + 1 + 1, 37, none⟩ = some (.int .i64 ry) := by rw [hw3, hw2, World.cell?_setCell_other _ _ _ _ (by simp), World.cell?_setCell_other _ _ _ _ (by simp)]; exact c37
  have ec38 : w3.cell? ⟨w.heap.size + 1 + 1 + 1 + 1 + 1 + 1 + 1 + 1 + 1, 38, none⟩ = some (.pointer none) := by rw [hw3, hw2, World.cell?_setCell_other _ _ _ _ (by simp), World.cell?_setCell_other _ _ _ _ (by simp)]; exact c38
  have ec39 : w3.cell? ⟨w.heap.size + 1 + 1 + 1 + 1 + 1 + 1 + 1 + 1 + 1, 39, none⟩ = some (.int .u64 tx) := by rw [hw3, hw2, World.cell?_setCell_other _ _ _ _ (by simp), World.cell?_setCell_other _ _ _ _ (by simp)]; exact c39
  have ec40 : w3.cell? ⟨w.heap.size + 1 + 1 + 1 + 1 + 1 + 1 + 1 + 1 + 1, 40, none⟩ = some (.int .i64 ty) := by rw [hw3, hw2, World.cell?_setCell_other _ _ _ _ (by simp), World.cell?_setCell_other _ _ _ _ (by simp)]; exact c40
  have ec41 : w3.cell? ⟨w.heap.size + 1 + 1 + 1 + 1 + 1 + 1 + 1 + 1 + 1, 41, none⟩ = some (.pointer none) := by rw [hw3, hw2, World.cell?_setCell_other _ _ _ _ (by simp), World.cell?_setCell_other _ _ _ _ (by simp)]; exact c41
  have ec42 : w3.cell? ⟨w.heap.size + 1 + 1 + 1 + 1 + 1 + 1 + 1 + 1 + 1, 42, none⟩ = some (.bool rset) := by rw [hw3, hw2, World.cell?_setCell_other _ _ _ _ (by simp), World.cell?_setCell_other _ _ _ _ (by simp)]; exact c42
  have ec43 : w3.cell? ⟨w.heap.size + 1 + 1 + 1 + 1 + 1 + 1 + 1 + 1 + 1, 43, none⟩ = some (.bool true) := by rw [hw3, hw2, World.cell?_setCell_other _ _ _ _ (by simp), World.cell?_setCell_other _ _ _ _ (by simp)]; exact c43
  have ec48 : w3.cell? ⟨w.heap.size + 1 + 1 + 1 + 1 + 1 + 1 + 1 + 1 + 1, 48, none⟩ = some (.bool false) := by rw [hw3, hw2, World.cell?_setCell_other _ _ _ _ (by simp), World.cell?_setCell_other _ _ _ _ (by simp)]; exact c48
  have eq0 : w3.cell? ⟨w.heap.size + 1 + 1 + 1 + 1 + 1 + 1 + 1 + 1 + 1 + 1, 0, none⟩ = some (.pointer (some ⟨w.heap.size + 1 + 1 + 1 + 1 + 1 + 1 + 1 + 1 + 1, 0, none⟩)) := by rw [hw3, hw2, World.cell?_setCell_other _ _ _ _ (by simp), World.cell?_setCell_other _ _ _ _ (by simp)]; exact q0
  clear hw3 HW2 hw2 t0 t1 t2 p0 p1 p2 r0 r1 r2 c36 c37 c38 c39 c40 c41 c42 c43 c48 q0 c12 f12 d12 g12 B1
  have q25 := eq25
  have q28 := neq28
  go_wp2
  go_quiet (fail)
  go_wp2
  go_quiet (fail)
  go_wp2
  go_ret
  exact ⟨rfl, below_drewN (below_drewN B3 _) _⟩

set_option maxRecDepth 100000 in
set_option maxHeartbeats 4000000 in
theorem walk_hij (n prev readN : Int) (pset rset : Bool) (w : World) (n1 : -9223372036854775808 ≤ n) (n2 : n ≤ 9223372036854775807) (p1 : -9223372036854775808 ≤ prev) (p2 : prev ≤ 9223372036854775807) (r1 : -9223372036854775808 ≤ readN) (r2 : readN ≤ 9223372036854775807) (g : Value) (hgv : ∃ T p, g = .iface T p) (hg : w.cell? ⟨0, 0, none⟩ = some g) (hpos : 0 < w.heap.size) :
    Calls Ybad.prog 3 #[.bool true, .int .i64 n, .int .i64 prev, .bool pset, .int .i64 readN, .bool rset] w fun e w' => e = .returned (.bool true) ∧ Below w.heap.size w w' := by
  have HG : Hid (w.cell? ⟨0, 0, none⟩ = some g) := hg
  clear hg
  go_enter Ybad.func3, Ybad.ntmps3
  go_wp2_with fail
  refine (add_zero n _ n1 n2).mono ?_
  rintro e w' ⟨tx, ty, rfl, tx1, tx2, rfl⟩
  go_wp2_with fail
  refine (add_zero prev _ p1 p2).mono ?_
  rintro e w' ⟨px, py, rfl, px1, px2, rfl⟩
  go_wp2_with fail
  refine (add_zero readN _ r1 r2).mono ?_
  rintro e w' ⟨rx, ry, rfl, rx1, rx2, rfl⟩
  clear n1 n2 p1 p2 r1 r2 tx1 tx2 px1 px2 rx1 rx2
  go_wp2_with fail
  obtain ⟨gT, gp, rfl⟩ := hgv
  refine (swd_hijacked (w.heap.size + 1 + 1 + 1 + 1 + 1 + 1 + 1 + 1 + 1 + 1) (w.heap.size + 1 + 1 + 1 + 1 + 1 + 1 + 1 + 1 + 1) tx ty (.iface gT gp) _ (by simp [go_sem]) (by simp [go_sem]) ?_ (by simp) (by simp) (by simp)).mono ?_
  · repeat rw [World.cell?_alloc_past _ 0 0 (by first | exact hpos | (simp; done) | (simp; omega))]
    exact HG.out
  rintro e w1 ⟨rfl, hw1⟩
  have B1 : Below w.heap.size w w1 := by rw [hw1]; exact ((((((((((((((((((((((((Below.refl _ _).alloc (by simp) _)).alloc (by simp) _)).alloc (by simp; omega) _)).alloc (by simp; omega) _)).alloc (by simp; omega) _)).alloc (by simp; omega) _)).alloc (by simp; omega) _)).alloc (by simp; omega) _)).alloc (by simp; omega) _)).alloc (by simp; omega) _)).alloc (by simp; omega) _)).alloc (by simp; omega) _)
  have t0 : w1.cell? ⟨w.heap.size + 1 + 1, 0, none⟩ = some (.int .u64 tx) := by rw [hw1]; simp [go_sem]
  have t1 : w1.cell? ⟨w.heap.size + 1 + 1, 1, none⟩ = some (.int .i64 ty) := by rw [hw1]; simp [go_sem]
  have t2 : w1.cell? ⟨w.heap.size + 1 + 1, 2, none⟩ = some (.pointer none) := by rw [hw1]; simp [go_sem]
  have p0 : w1.cell? ⟨w.heap.size + 1 + 1 + 1 + 1 + 1, 0, none⟩ = some (.int .u64 px) := by rw [hw1]; simp [go_sem]
  have p1 : w1.cell? ⟨w.heap.size + 1 + 1 + 1 + 1 + 1, 1, none⟩ = some (.int .i64 py) := by rw [hw1]; simp [go_sem]
  have p2 : w1.cell? ⟨w.heap.size + 1 + 1 + 1 + 1 + 1, 2, none⟩ = some (.pointer none) := by rw [hw1]; simp [go_sem]
  have r0 : w1.cell? ⟨w.heap.size + 1 + 1 + 1 + 1 + 1 + 1 + 1 + 1, 0, none⟩ = some (.int .u64 rx) := by rw [hw1]; simp [go_sem]
  have r1 : w1.cell? ⟨w.heap.size + 1 + 1 + 1 + 1 + 1 + 1 + 1 + 1, 1, none⟩ = some (.int .i64 ry) := by rw [hw1]; simp [go_sem]
  have r2 : w1.cell? ⟨w.heap.size + 1 + 1 + 1 + 1 + 1 + 1 + 1 + 1, 2, none⟩ = some (.pointer none) := by rw [hw1]; simp [go_sem]
  have c36 : w1.cell? ⟨w.heap.size + 1 + 1 + 1 + 1 + 1 + 1 + 1 + 1 + 1, 36, none⟩ = some (.int .u64 rx) := by rw [hw1]; simp [go_sem]
  have c37 : w1.cell? ⟨w.heap.size + 1 + 1 + 1 + 1 + 1 + 1 + 1 + 1 + 1, 37, none⟩ = some (.int .i64 ry) := by rw [hw1]; simp [go_sem]
  have c38 : w1.cell? ⟨w.heap.size + 1 + 1 + 1 + 1 + 1 + 1 + 1 + 1 + 1, 38, none⟩ = some (.pointer none) := by rw [hw1]; simp [go_sem]
  have c39 : w1.cell? ⟨w.heap.size + 1 + 1 + 1 + 1 + 1 + 1 + 1 + 1 + 1, 39, none⟩ = some (.int .u64 px) := by rw [hw1]; simp [go_sem]
  have c40 : w1.cell? ⟨w.heap.size + 1 + 1 + 1 + 1 + 1 + 1 + 1 + 1 + 1, 40, none⟩ = some (.int .i64 py) := by rw [hw1]; simp [go_sem]
  have c41 : w1.cell? ⟨w.heap.size + 1 + 1 + 1 + 1 + 1 + 1 + 1 + 1 + 1, 41, none⟩ = some (.pointer none) := by rw [hw1]; simp [go_sem]
  have c42 : w1.cell? ⟨w.heap.size + 1 + 1 + 1 + 1 + 1 + 1 + 1 + 1 + 1, 42, none⟩ = some (.bool rset) := by rw [hw1]; simp [go_sem]
  have c43 : w1.cell? ⟨w.heap.size + 1 + 1 + 1 + 1 + 1 + 1 + 1 + 1 + 1, 43, none⟩ = some (.bool pset) := by rw [hw1]; simp [go_sem]
  have c48 : w1.cell? ⟨w.heap.size + 1 + 1 + 1 + 1 + 1 + 1 + 1 + 1 + 1, 48, none⟩ = some (.bool true) := by rw [hw1]; simp [go_sem]
  have q0 : w1.cell? ⟨w.heap.size + 1 + 1 + 1 + 1 + 1 + 1 + 1 + 1 + 1 + 1, 0, none⟩ = some (.pointer (some ⟨w.heap.size + 1 + 1 + 1 + 1 + 1 + 1 + 1 + 1 + 1, 0, none⟩)) := by rw [hw1]; simp [go_sem]
  have c12 : w1.cell? ⟨w.heap.size + 1 + 1 + 1 + 1 + 1 + 1 + 1 + 1 + 1, 12, none⟩ = some (.int .i32 0) := by rw [hw1]; simp [go_sem]
  have f12 : w1.frozen? ⟨w.heap.size + 1 + 1 + 1 + 1 + 1 + 1 + 1 + 1 + 1, 12, none⟩ = false := by rw [hw1]; simp [go_sem]
  clear hw1
  go_wp2_with fail
  refine (try_free ⟨w.heap.size + 1 + 1 + 1 + 1 + 1 + 1 + 1 + 1 + 1, 12, none⟩ _ c12 f12).mono ?_
  rintro e w2 ⟨rfl, hw2⟩
  have d12 : w2.cell? ⟨w.heap.size + 1 + 1 + 1 + 1 + 1 + 1 + 1 + 1 + 1, 12, none⟩ = some (.int .i32 1) := by rw [hw2]; exact World.cell?_setCell_same _ _ _ c12
  have g12 : w2.frozen? ⟨w.heap.size + 1 + 1 + 1 + 1 + 1 + 1 + 1 + 1 + 1, 12, none⟩ = false := by rw [hw2]; simpa using f12
  have HW2 : Hid (w2 = w1.setCell ⟨w.heap.size + 1 + 1 + 1 + 1 + 1 + 1 + 1 + 1 + 1, 12, none⟩ (.int .i32 1)) := hw2
  clear hw2
  go_wp2_with fail
  refine (unlock_held Ybad.muLib ⟨w.heap.size + 1 + 1 + 1 + 1 + 1 + 1 + 1 + 1 + 1, 12, none⟩ _ d12 g12).mono ?_
  rintro e w3 ⟨rfl, hw3⟩
  have hw2 := HW2.out
  have B3 : Below w.heap.size w w3 := by rw [hw3, hw2]; exact (B1.setCell (by simp; omega) _).setCell (by simp; omega) _
  have et0 : w3.cell? ⟨w.heap.size + 1 + 1, 0, none⟩ = some (.int .u64 tx) := by rw [hw3, hw2, World.cell?_setCell_other _ _ _ _ (by simp), World.cell?_setCell_other _ _ _ _ (by simp)]; exact t0
  have et1 : w3.cell? ⟨w.heap.size + 1 + 1, 1, none⟩ = some (.int .i64 ty) := by rw [hw3, hw2, World.cell?_setCell_other _ _ _ _ (by simp), World.cell?_setCell_other _ _ _ _ (by simp)]; exact t1
  have et2 : w3.cell? ⟨w.heap.size + 1 + 1, 2, none⟩ = some (.pointer none) := by rw [hw3, hw2, World.cell?_setCell_other _ _ _ _ (by simp), World.cell?_setCell_other _ _ _ _ (by simp)]; exact t2
  have ep0 : w3.cell? ⟨w.heap.size + 1 + 1 + 1 + 1 + 1, 0, none⟩ = some (.int .u64 px) := by rw [hw3, hw2, World.cell?_setCell_other _ _ _ _ (by simp), World.cell?_setCell_other _ _ _ _ (by simp)]; exact p0
  have ep1 : w3.cell? ⟨w.heap.size + 1 + 1 + 1 + 1 + 1, 1, none⟩ = some (.int .i64 py) := by rw [hw3, hw2, World.cell?_setCell_other _ _ _ _ (by simp), World.cell?_setCell_other _ _ _ _ (by simp)]; exact p1
  have ep2 : w3.cell? ⟨w.heap.size + 1 + 1 + 1 + 1 + 1, 2, none⟩ = some (.pointer none) := by rw [hw3, hw2, World.cell?_setCell_other _ _ _ _ (by simp), World.cell?_setCell_other _ _ _ _ (by simp)]; exact p2
  have er0 : w3.cell? ⟨w.heap.size + 1 + 1 + 1 + 1 + 1 + 1 + 1 + 1, 0, none⟩ = some (.int .u64 rx) := by rw [hw3, hw2, World.cell?_setCell_other _ _ _ _ (by simp), World.cell?_setCell_other _ _ _ _ (by simp)]; exact r0
  have er1 : w3.cell? ⟨w.heap.size + 1 + 1 + 1 + 1 + 1 + 1 + 1 + 1, 1, none⟩ = some (.int .i64 ry) := by rw [hw3, hw2, World.cell?_setCell_other _ _ _ _ (by simp), World.cell?_setCell_other _ _ _ _ (by simp)]; exact r1
  have er2 : w3.cell? ⟨w.heap.size + 1 + 1 + 1 + 1 + 1 + 1 + 1 + 1, 2, none⟩ = some (.pointer none) := by rw [hw3, hw2, World.cell?_setCell_other _ _ _ _ (by simp), World.cell?_setCell_other _ _ _ _ (by simp)]; exact r2
  have ec36 : w3.cell? ⟨w.heap.size + 1 + 1 + 1 + 1 + 1 + 1 + 1 + 1 + 1, 36, none⟩ = some (.int .u64 rx) := by rw [hw3, hw2, World.cell?_setCell_other _ _ _ _ (by simp), World.cell?_setCell_other _ _ _ _ (by simp)]; exact c36
  have ec37 : w3.cell? ⟨w.heap.size + 1 + 1 + 1 + 1 + 1 + 1 + 1 + 1 + 1, 37, none⟩ = some (.int .i64 ry) := by rw [hw3, hw2, World.cell?_setCell_other _ _ _ _ (by simp), World.cell?_setCell_other _ _ _ _ (by simp)]; exact c37
  have ec38 : w3.cell? ⟨w.heap.size + 1 + 1 + 1 + 1 + 1 + 1 + 1 + 1 + 1, 38, none⟩ = some (.pointer none) := by rw [hw3, hw2, World.cell?_setCell_other _ _ _ _ (by simp), World.cell?_setCell_other _ _ _ _ (by simp)]; exact c38
  have ec39 : w3.cell? ⟨w.heap.size + 1 + 1 + 1 + 1 + 1 + 1 + 1 + 1 + 1, 39, none⟩ = some (.int .u64 px) := by rw [hw3, hw2, World.cell?_setCell_other _ _ _ _ (by simp), World.cell?_setCell_other _ _ _ _ (by simp)]; exact c39
  have ec40 : w3.cell? ⟨w.heap.size + 1 + 1 + 1 + 1 + 1 + 1 + 1 + 1 + 1, 40, none⟩ = some (.int .i64 py) := by rw [hw3, hw2, World.cell?_setCell_other _ _ _ _ (by simp), World.cell?_setCell_other _ _ _ _ (by simp)]; exact c40
  have ec41 : w3.cell? ⟨w.heap.size + 1 + 1 + 1 + 1 + 1 + 1 + 1 + 1 + 1, 41, none⟩ = some (.pointer none) := by rw [hw3, hw2, World.cell?_setCell_other _ _ _ _ (by simp), World.cell?_setCell_other _ _ _ _ (by simp)]; exact c41
  have ec42 : w3.cell? ⟨w.heap.size + 1 + 1 + 1 + 1 + 1 + 1 + 1 + 1 + 1, 42, none⟩ = some (.bool rset) := by rw [hw3, hw2, World.cell?_setCell_other _ _ _ _ (by simp), World.cell?_setCell_other _ _ _ _ (by simp)]; exact c42
  have ec43 : w3.cell? ⟨w.heap.size + 1 + 1 + 1 + 1 + 1 + 1 + 1 + 1 + 1, 43, none⟩ = some (.bool pset) := by rw [hw3, hw2, World.cell?_setCell_other _ _ _ _ (by simp), World.cell?_setCell_other _ _ _ _ (by simp)]; exact c43
  have ec48 : w3.cell? ⟨w.heap.size + 1 + 1 + 1 + 1 + 1 + 1 + 1 + 1 + 1, 48, none⟩ = some (.bool true) := by rw [hw3, hw2, World.cell?_setCell_other _ _ _ _ (by simp), World.cell?_setCell_other _ _ _ _ (by simp)]; exact c48
  have eq0 : w3.cell? ⟨w.heap.size + 1 + 1 + 1 + 1 + 1 + 1 + 1 + 1 + 1 + 1, 0, none⟩ = some (.pointer (some ⟨w.heap.size + 1 + 1 + 1 + 1 + 1 + 1 + 1 + 1 + 1, 0, none⟩)) := by rw [hw3, hw2, World.cell?_setCell_other _ _ _ _ (by simp), World.cell?_setCell_other _ _ _ _ (by simp)]; exact q0
  clear hw3 HW2 hw2 t0 t1 t2 p0 p1 p2 r0 r1 r2 c36 c37 c38 c39 c40 c41 c42 c43 c48 q0 c12 f12 d12 g12 B1
  have q25 := eq25
  have q28 := neq28
  go_wp2
  go_quiet (fail)
  go_wp2
  go_quiet (fail)
  go_wp2
  go_ret
  exact ⟨rfl, below_drewN (below_drewN B3 _) _⟩
end Go.Proofs.YbulkdebcDoor.Store
