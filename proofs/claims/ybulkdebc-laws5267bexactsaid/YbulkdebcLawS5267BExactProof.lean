/-
  A PROOF OF 'Rows.LawS5267BExactSaid' ('example.com/pilotfish/pilotfish.LawS5267BExact'). The frame is the shell's (proof-skeleton.mjs); the walk and the contracts are this seat's.
-/
import Derived.Test.YbulkdebcRows
import Derived.Test.YbulkdebcLocks
import Derived.Conc.MuLone
import Derived.WalkKit
import Derived.WalkLawsBesides
import Derived.ProofKit
import Derived.OpenShut
import Derived.ShutString
namespace Go.Proofs.Ybulkdebc.lawS5267BExact
open Go.ChangeShapes Go.WideShapes Go.ChangeAt Go.RowKit Go.MuLone
open Go.ChangeMaps (open_string shut_string)
set_option linter.unusedVariables false

theorem own : ownKnob Yba.prog.godebug = none := by kernel_rfl

/-! ### STEP 1: THE WALK -/
/-- 'unanswered' on a connection whose lock is free and that was not cut off. -/
theorem una_nil (b : Nat) (r g : Bool) (w : World)
    (h8 : w.cell? ⟨b, 8, none⟩ = some (.bool r)) (h13 : w.cell? ⟨b, 13, none⟩ = some (.int .i32 0)) (h16 : w.cell? ⟨b, 16, none⟩ = some (.bool g))
    (h17 : w.cell? ⟨b, 17, none⟩ = some .nilIface) (f13 : w.frozen? ⟨b, 13, none⟩ = false) :
    Calls Yba.prog 7 #[.pointer (some ⟨b, 0, none⟩)] w fun e w' => e = .returned (.bool (r && !g)) ∧
      w' = (w.setCell ⟨b, 13, none⟩ (.int .i32 1)).setCell ⟨b, 13, none⟩ (.int .i32 0) := by
  cases r <;> cases g
  all_goals
    go_enter_defers Yba.func7, Yba.ntmps7
    go_wp2_with (go_at_call 11; refine (lock_free Yba.muLib ⟨b, 13, none⟩ _ h13 f13).mono ?_; rintro e w' ⟨rfl, rfl⟩)
    refine leaves_cons (f := 9) (args := #[.pointer (some ⟨b, 13, none⟩)]) (by simp) (by simp [go_sem]) ?_
    refine (unlock_deferred Yba.muLib ⟨b, 13, none⟩ .returning _ ?_ ?_).mono ?_
    · exact World.cell?_setCell_same w ⟨b, 13, none⟩ (.int .i32 1) h13
    · simp [f13]
    rintro e u' w'' ⟨rfl, rfl, rfl⟩
    exact ⟨_, results_tmp rfl _ _ _, rfl, rfl⟩

/-- 'unanswered' on a connection whose lock is free and that was cut off. -/
theorem una_err (b : Nat) (r g : Bool) (p : Addr) (w : World)
    (h8 : w.cell? ⟨b, 8, none⟩ = some (.bool r)) (h13 : w.cell? ⟨b, 13, none⟩ = some (.int .i32 0)) (h16 : w.cell? ⟨b, 16, none⟩ = some (.bool g))
    (h17 : w.cell? ⟨b, 17, none⟩ = some (.iface 57 (.pointer (some p)))) (f13 : w.frozen? ⟨b, 13, none⟩ = false) :
    Calls Yba.prog 7 #[.pointer (some ⟨b, 0, none⟩)] w fun e w' => e = .returned (.bool false) ∧
      w' = (w.setCell ⟨b, 13, none⟩ (.int .i32 1)).setCell ⟨b, 13, none⟩ (.int .i32 0) := by
  cases r <;> cases g
  all_goals
    go_enter_defers Yba.func7, Yba.ntmps7
    go_wp2_with (go_at_call 11; refine (lock_free Yba.muLib ⟨b, 13, none⟩ _ h13 f13).mono ?_; rintro e w' ⟨rfl, rfl⟩)
    refine leaves_cons (f := 9) (args := #[.pointer (some ⟨b, 13, none⟩)]) (by simp) (by simp [go_sem]) ?_
    refine (unlock_deferred Yba.muLib ⟨b, 13, none⟩ .returning _ ?_ ?_).mono ?_
    · exact World.cell?_setCell_same w ⟨b, 13, none⟩ (.int .i32 1) h13
    · simp [f13]
    rintro e u' w'' ⟨rfl, rfl, rfl⟩
    exact ⟨_, results_tmp rfl _ _ _, rfl, rfl⟩

theorem new_any (s : ByteArray) (w : World) :
    Calls Yba.prog 6 #[.string s] w fun e w' => e = .returned (.iface 57 (.pointer (some ⟨w.heap.size, 0, none⟩))) ∧ w' = w.alloc (.cells #[.string s] 59) := by
  go_enter Yba.func6, Yba.ntmps6
  go_wp2
  go_ret
  exact ⟨rfl, rfl⟩

set_option maxHeartbeats 400000 in
theorem walk_nil_ff (w : World) :
    Calls Yba.prog 3 #[.bool false, .bool false, .bool false] w fun e w' => e = .returned (.bool true) ∧ Grown w w' := by
  go_enter Yba.func3, Yba.ntmps3
  go_wp2_with fail
  refine (una_nil w.heap.size false false _ (by simp) (by simp) (by simp) (by simp) (by simp)).mono ?_
  rintro e w' ⟨rfl, rfl⟩
  go_wp2
  go_ret
  exact ⟨rfl, (Grown.refl _).alloc _ _⟩
set_option maxHeartbeats 400000 in
theorem walk_err_ff (w : World) :
    Calls Yba.prog 3 #[.bool false, .bool false, .bool true] w fun e w' => e = .returned (.bool true) ∧ Grown w w' := by
  go_enter Yba.func3, Yba.ntmps3
  go_wp2_with (go_at_call 6; refine (new_any _ _).mono ?_; rintro e w' ⟨rfl, rfl⟩)
  refine (una_err w.heap.size false false ⟨w.heap.size + 1, 0, none⟩ _ ?_ ?_ ?_ ?_ ?_).mono ?_
  · simp
  · simp
  · simp
  · simp
  · simp
  rintro e w' ⟨rfl, rfl⟩
  go_wp2
  go_ret
  exact ⟨rfl, ((Grown.refl _).alloc _ _).alloc _ _⟩
set_option maxHeartbeats 400000 in
theorem walk_nil_ft (w : World) :
    Calls Yba.prog 3 #[.bool false, .bool true, .bool false] w fun e w' => e = .returned (.bool true) ∧ Grown w w' := by
  go_enter Yba.func3, Yba.ntmps3
  go_wp2_with fail
  refine (una_nil w.heap.size false true _ (by simp) (by simp) (by simp) (by simp) (by simp)).mono ?_
  rintro e w' ⟨rfl, rfl⟩
  go_wp2
  go_ret
  exact ⟨rfl, (Grown.refl _).alloc _ _⟩
set_option maxHeartbeats 400000 in
theorem walk_err_ft (w : World) :
    Calls Yba.prog 3 #[.bool false, .bool true, .bool true] w fun e w' => e = .returned (.bool true) ∧ Grown w w' := by
  go_enter Yba.func3, Yba.ntmps3
  go_wp2_with (go_at_call 6; refine (new_any _ _).mono ?_; rintro e w' ⟨rfl, rfl⟩)
  refine (una_err w.heap.size false true ⟨w.heap.size + 1, 0, none⟩ _ ?_ ?_ ?_ ?_ ?_).mono ?_
  · simp
  · simp
  · simp
  · simp
  · simp
  rintro e w' ⟨rfl, rfl⟩
  go_wp2
  go_ret
  exact ⟨rfl, ((Grown.refl _).alloc _ _).alloc _ _⟩
set_option maxHeartbeats 400000 in
theorem walk_nil_tf (w : World) :
    Calls Yba.prog 3 #[.bool true, .bool false, .bool false] w fun e w' => e = .returned (.bool true) ∧ Grown w w' := by
  go_enter Yba.func3, Yba.ntmps3
  go_wp2_with fail
  refine (una_nil w.heap.size true false _ (by simp) (by simp) (by simp) (by simp) (by simp)).mono ?_
  rintro e w' ⟨rfl, rfl⟩
  go_wp2
  go_ret
  exact ⟨rfl, (Grown.refl _).alloc _ _⟩
set_option maxHeartbeats 400000 in
theorem walk_err_tf (w : World) :
    Calls Yba.prog 3 #[.bool true, .bool false, .bool true] w fun e w' => e = .returned (.bool true) ∧ Grown w w' := by
  go_enter Yba.func3, Yba.ntmps3
  go_wp2_with (go_at_call 6; refine (new_any _ _).mono ?_; rintro e w' ⟨rfl, rfl⟩)
  refine (una_err w.heap.size true false ⟨w.heap.size + 1, 0, none⟩ _ ?_ ?_ ?_ ?_ ?_).mono ?_
  · simp
  · simp
  · simp
  · simp
  · simp
  rintro e w' ⟨rfl, rfl⟩
  go_wp2
  go_ret
  exact ⟨rfl, ((Grown.refl _).alloc _ _).alloc _ _⟩
set_option maxHeartbeats 400000 in
theorem walk_nil_tt (w : World) :
    Calls Yba.prog 3 #[.bool true, .bool true, .bool false] w fun e w' => e = .returned (.bool true) ∧ Grown w w' := by
  go_enter Yba.func3, Yba.ntmps3
  go_wp2_with fail
  refine (una_nil w.heap.size true true _ (by simp) (by simp) (by simp) (by simp) (by simp)).mono ?_
  rintro e w' ⟨rfl, rfl⟩
  go_wp2
  go_ret
  exact ⟨rfl, (Grown.refl _).alloc _ _⟩
set_option maxHeartbeats 400000 in
theorem walk_err_tt (w : World) :
    Calls Yba.prog 3 #[.bool true, .bool true, .bool true] w fun e w' => e = .returned (.bool true) ∧ Grown w w' := by
  go_enter Yba.func3, Yba.ntmps3
  go_wp2_with (go_at_call 6; refine (new_any _ _).mono ?_; rintro e w' ⟨rfl, rfl⟩)
  refine (una_err w.heap.size true true ⟨w.heap.size + 1, 0, none⟩ _ ?_ ?_ ?_ ?_ ?_).mono ?_
  · simp
  · simp
  · simp
  · simp
  · simp
  rintro e w' ⟨rfl, rfl⟩
  go_wp2
  go_ret
  exact ⟨rfl, ((Grown.refl _).alloc _ _).alloc _ _⟩

theorem walk (a0 : Bool) (a1 : Bool) (a2 : Bool) (w : World) :
    Calls Yba.prog 3 #[.bool a0, .bool a1, .bool a2] w fun e w' => e = .returned (.bool true) ∧ Grown w w' := by
  cases a2 <;> cases a0 <;> cases a1
  · exact walk_nil_ff w
  · exact walk_nil_ft w
  · exact walk_nil_tf w
  · exact walk_nil_tt w
  · exact walk_err_ff w
  · exact walk_err_ft w
  · exact walk_err_tf w
  · exact walk_err_tt w

/-! ### THE ROW's STEP: WRITTEN OUT: LEAVE IT -/
set_option maxRecDepth 100000 in
theorem lifted (os : Os) (started : os.Started) (H : Type) (enc : TypeId × Value → H) :
    ReturnsInHanded {} Yba.checked os 3 .any (Rows.lawS5267BExactSpec.pre6 enc Yba.prog Yba.f3 Rows.lawS5267BExactRow.domain false) (Rows.lawS5267BExactSpec.post enc Yba.prog Yba.f3 false true false false) := by
  refine returnsInHanded_of_change (C := Yba.checked) own started (by kernel_rfl) Yba.func3
    (ChangeSpec.witness6 (enc := enc) (C := Yba.checked) false ⟨#[], #[.bool false, .bool false, .bool false], []⟩ 8 (by kernel_rfl) (by kernel_rfl) (by kernel_rfl) (by kernel_rfl)) ?_
  intro W base args ds gs before hval0 hW hcnd _
  have hval : ∀ (j : Nat) t v, Yba.f3.params[j]? = some t → args[j]? = some v → Value.okWide Yba.prog W .any base t v := hval0
  have hW' := hW
  obtain ⟨p, q, hA0, hV, rfl, hfz, hnd⟩ := hW
  have hA : DataW.TrodAll enc Yba.prog W 0 (fun _ => true) true Yba.f3.params.toList args.toList ds p := hA0
  rw [Yba.params3] at hA hval
  obtain ⟨v0, vs0, d0, ds0, p0, q0, hargs, rfl, rfl, h0, r0⟩ := trodAll_cons hA
  obtain ⟨v1, vs1, d1, ds1, p1, q1, rfl, rfl, rfl, h1, r1⟩ := trodAll_cons r0
  obtain ⟨v2, vs2, d2, ds2, p2, q2, rfl, rfl, rfl, h2, r2⟩ := trodAll_cons r1
  obtain ⟨rfl, rfl, rfl⟩ := trodAll_nil r2
  obtain rfl : args = #[v0, v1, v2] := by cases args; simp_all
  obtain ⟨rfl, rfl⟩ := trodVars_none hV
  obtain ⟨a0, rfl, rfl, rfl⟩ := open_bool Yba.underlying4 (hval 0 4 v0 rfl rfl) h0
  obtain ⟨a1, rfl, rfl, rfl⟩ := open_bool Yba.underlying4 (hval 1 4 v1 rfl rfl) h1
  obtain ⟨a2, rfl, rfl, rfl⟩ := open_bool Yba.underlying4 (hval 2 4 v2 rfl rfl) h2
  clear hA0 hval0
  simp only [List.append_nil] at hW'
  refine (walk a0 a1 a2 W).mono fun e W' ⟨he, hg⟩ => ?_
  subst he
  exact ⟨_, rfl, post_of_same (pa := []) (pv := []) hW' (fun _ _ _ => (trodAll_cons_mk (shut_bool Yba.underlying4 _) trodAll_mk0)) (fun sp _ => (trodAll_cons_mk (shut_bool Yba.underlying4 _) (trodAll_cons_mk (shut_bool Yba.underlying4 _) (trodAll_cons_mk (shut_bool Yba.underlying4 _) trodAll_mk0)))) (fun _ _ => rfl) rfl
    (hg.frame _) hg.2.1 (ok_one (by kernel_rfl) rfl (okWide_bool_mk Yba.underlying4 _))⟩

theorem over : Rows.lawS5267BExactRow.holds Yba.pinned (OpenSpec.ofChange Rows.lawS5267BExactSpec) :=
  OpenClaim.holds_of_wide 3 Yba.f3 rfl rfl rfl rfl rfl rfl rfl ⟨rfl, rfl, rfl, rfl, rfl⟩ rfl rfl rfl rfl rfl (by kernel_rfl) Yba.func3 (by kernel_rfl)
    (of_decide_eq_true (by kernel_rfl)) (by unfold Func.isWrapper; first | (rw [if_pos (by decide +kernel)]; kernel_rfl) | (rw [if_neg (by decide +kernel)]; exact ⟨rfl, rfl⟩))
    (fun os started H enc _ => lifted os started H enc)

/-- ████ THE STATEMENT ████ -/
theorem proved : Rows.LawS5267BExactSaid :=
  over
end Go.Proofs.Ybulkdebc.lawS5267BExact
