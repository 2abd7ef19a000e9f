/-
  A PROOF OF 'Rows.LawS5266BTableSaid' ('example.com/tamis/tamis.LawS5266BTable'). The frame is the shell's (proof-skeleton.mjs); the walk and the two contracts are this seat's.
-/
import Derived.Test.YbulkdeaoRows
import Derived.WalkKit
import Derived.ProofKit
import Derived.OpenShut
import Derived.ShutString
namespace Go.Proofs.Ybulkdeao.lawS5266BTable
open Go.ChangeShapes Go.WideShapes Go.ChangeAt Go.RowKit
open Go.ChangeMaps (open_string shut_string)
set_option linter.unusedVariables false      -- a walk need not use every 'w<i>' (that an integer argument fits its kind)

theorem own : ownKnob Yba.prog.godebug = none := by kernel_rfl

/-! ### STEP 1: THE WALK -/
theorem idx0 (x y z : Bool) (w : World) : (Instr.index 24 (.agg #[.bool x, .bool y, .bool z]) (.int .i64 0)).run Yba.prog w = .ok (.bool x) w := by kernel_rfl
theorem idx1 (x y z : Bool) (w : World) : (Instr.index 24 (.agg #[.bool x, .bool y, .bool z]) (.int .i64 1)).run Yba.prog w = .ok (.bool y) w := by kernel_rfl
theorem idx2 (x y z : Bool) (w : World) : (Instr.index 24 (.agg #[.bool x, .bool y, .bool z]) (.int .i64 2)).run Yba.prog w = .ok (.bool z) w := by kernel_rfl

/-- the table of 'zzs5266bsel' -/
def sel (op : Int) : Bool × Bool × Bool :=
  if op = 0 then (false, true, false) else if op = 1 then (true, false, true) else if op = 2 then (true, false, false)
  else if op = 3 then (true, true, false) else if op = 4 then (false, false, true) else (false, true, true)
/-- what 'holds' answers -/
def hol (op c : Int) : Bool :=
  if op = 0 then c == 0 else if op = 1 then c != 0 else if op = 2 then decide (c < 0)
  else if op = 3 then decide (c ≤ 0) else if op = 4 then decide (0 < c) else decide (0 ≤ c)

theorem sel_any (op : Int) (w : World) :
    Calls Yba.prog 6 #[.int .i64 op] w fun e w' => e = .returned (.agg #[.bool (sel op).1, .bool (sel op).2.1, .bool (sel op).2.2]) ∧ Grown w w' := by
  by_cases h0 : op = 0
  · subst h0
    go_enter Yba.func6, Yba.ntmps6
    go_wp2
    exact bodyPost_ret (v := .agg #[.bool false, .bool true, .bool false]) (by simp [results, Yba.results6, go_sem]) rfl ⟨rfl, (Grown.refl _).alloc _ _⟩
  by_cases h1 : op = 1
  · subst h1
    go_enter Yba.func6, Yba.ntmps6
    go_wp2
    exact bodyPost_ret (v := .agg #[.bool true, .bool false, .bool true]) (by simp [results, Yba.results6, go_sem]) rfl ⟨rfl, (Grown.refl _).alloc _ _⟩
  by_cases h2 : op = 2
  · subst h2
    go_enter Yba.func6, Yba.ntmps6
    go_wp2
    exact bodyPost_ret (v := .agg #[.bool true, .bool false, .bool false]) (by simp [results, Yba.results6, go_sem]) rfl ⟨rfl, (Grown.refl _).alloc _ _⟩
  by_cases h3 : op = 3
  · subst h3
    go_enter Yba.func6, Yba.ntmps6
    go_wp2
    exact bodyPost_ret (v := .agg #[.bool true, .bool true, .bool false]) (by simp [results, Yba.results6, go_sem]) rfl ⟨rfl, (Grown.refl _).alloc _ _⟩
  by_cases h4 : op = 4
  · subst h4
    go_enter Yba.func6, Yba.ntmps6
    go_wp2
    exact bodyPost_ret (v := .agg #[.bool false, .bool false, .bool true]) (by simp [results, Yba.results6, go_sem]) rfl ⟨rfl, (Grown.refl _).alloc _ _⟩
  · have es : sel op = (false, true, true) := by simp [sel, h0, h1, h2, h3, h4]
    rw [es]
    go_enter Yba.func6, Yba.ntmps6
    go_wp2
    exact bodyPost_ret (v := .agg #[.bool false, .bool true, .bool true]) (by simp [results, Yba.results6, go_sem]) rfl ⟨rfl, (Grown.refl _).alloc _ _⟩

theorem hol_any (op c : Int) (w : World) :
    Calls Yba.prog 5 #[.int .i64 op, .int .i64 c] w fun e w' => e = .returned (.bool (hol op c)) ∧ w' = w := by
  by_cases h0 : op = 0
  · subst h0
    go_enter Yba.func5, Yba.ntmps5
    go_wp2
    go_ret
    exact ⟨rfl, rfl⟩
  by_cases h1 : op = 1
  · subst h1
    go_enter Yba.func5, Yba.ntmps5
    go_wp2
    go_ret
    exact ⟨rfl, rfl⟩
  by_cases h2 : op = 2
  · subst h2
    go_enter Yba.func5, Yba.ntmps5
    go_wp2
    go_ret
    exact ⟨rfl, rfl⟩
  by_cases h3 : op = 3
  · subst h3
    go_enter Yba.func5, Yba.ntmps5
    go_wp2
    go_ret
    exact ⟨rfl, rfl⟩
  by_cases h4 : op = 4
  · subst h4
    go_enter Yba.func5, Yba.ntmps5
    go_wp2
    go_ret
    exact ⟨rfl, rfl⟩
  · have es : hol op c = decide (0 ≤ c) := by simp [hol, h0, h1, h2, h3, h4]
    rw [es]
    go_enter Yba.func5, Yba.ntmps5
    go_wp2
    go_ret
    exact ⟨rfl, rfl⟩

theorem agree_lt (op c : Int) (h : c < 0) : (hol op c == (sel op).1) = true := by
  unfold hol sel; repeat' split
  all_goals simp; try omega
theorem agree_eq (op c : Int) (h : c = 0) : (hol op c == (sel op).2.1) = true := by
  subst h; unfold hol sel; repeat' split
  all_goals simp
theorem agree_gt (op c : Int) (h : 0 < c) : (hol op c == (sel op).2.2) = true := by
  unfold hol sel; repeat' split
  all_goals simp; try omega

theorem walk (a0 : Int) (a1 : Int) (w0 : (Lit.int .i64 a0).wf = true) (w1 : (Lit.int .i64 a1).wf = true) (w : World) :
    Calls Yba.prog 3 #[.int .i64 a0, .int .i64 a1] w fun e w' => e = .returned (.bool true) ∧ Grown w w' := by
  have i0 := idx0; have i1 := idx1; have i2 := idx2
  by_cases hl : a1 < 0
  · have hag := agree_lt a0 a1 hl
    go_enter Yba.func3, Yba.ntmps3
    go_wp2_with (first | (go_at_call 5; refine (hol_any _ _ _).mono ?_; rintro e w' ⟨rfl, rfl⟩) | (go_at_call 6; refine (sel_any _ _).mono ?_; rintro e w' ⟨rfl, hg⟩))
    go_ret
    exact ⟨rfl, hg⟩
  by_cases hg : 0 < a1
  · have hag := agree_gt a0 a1 hg
    go_enter Yba.func3, Yba.ntmps3
    go_wp2_with (first | (go_at_call 5; refine (hol_any _ _ _).mono ?_; rintro e w' ⟨rfl, rfl⟩) | (go_at_call 6; refine (sel_any _ _).mono ?_; rintro e w' ⟨rfl, hg⟩))
    go_ret
    exact ⟨rfl, hg⟩
  · have hz : a1 = 0 := by omega
    subst hz
    have hag := agree_eq a0 0 rfl
    go_enter Yba.func3, Yba.ntmps3
    go_wp2_with (first | (go_at_call 5; refine (hol_any _ _ _).mono ?_; rintro e w' ⟨rfl, rfl⟩) | (go_at_call 6; refine (sel_any _ _).mono ?_; rintro e w' ⟨rfl, hg⟩))
    go_ret
    exact ⟨rfl, hg⟩

/-! ### THE ROW's STEP: WRITTEN OUT: LEAVE IT -/
set_option maxRecDepth 100000 in
theorem lifted (os : Os) (started : os.Started) (H : Type) (enc : TypeId × Value → H) :
    ReturnsInHanded {} Yba.checked os 3 .any (Rows.lawS5266BTableSpec.pre6 enc Yba.prog Yba.f3 Rows.lawS5266BTableRow.domain false) (Rows.lawS5266BTableSpec.post enc Yba.prog Yba.f3 false true false false) := by
  refine returnsInHanded_of_change (C := Yba.checked) own started (by kernel_rfl) Yba.func3
    (ChangeSpec.witness6 (enc := enc) (C := Yba.checked) false ⟨#[], #[.int .i64 0, .int .i64 0], []⟩ 8 (by kernel_rfl) (by kernel_rfl) (by kernel_rfl) (by kernel_rfl)) ?_
  intro W base args ds gs before hval0 hW hcnd _
  have hval : ∀ (j : Nat) t v, Yba.f3.params[j]? = some t → args[j]? = some v → Value.okWide Yba.prog W .any base t v := hval0
  have hW' := hW
  obtain ⟨p, q, hA0, hV, rfl, hfz, hnd⟩ := hW
  have hA : DataW.TrodAll enc Yba.prog W 0 (fun _ => true) true Yba.f3.params.toList args.toList ds p := hA0
  rw [Yba.params3] at hA hval
  obtain ⟨v0, vs0, d0, ds0, p0, q0, hargs, rfl, rfl, h0, r0⟩ := trodAll_cons hA
  obtain ⟨v1, vs1, d1, ds1, p1, q1, rfl, rfl, rfl, h1, r1⟩ := trodAll_cons r0
  obtain ⟨rfl, rfl, rfl⟩ := trodAll_nil r1
  obtain rfl : args = #[v0, v1] := by cases args; simp_all
  obtain ⟨rfl, rfl⟩ := trodVars_none hV
  obtain ⟨a0, rfl, rfl, rfl, w0⟩ := open_int Yba.underlying3 (hval 0 3 v0 rfl rfl) h0
  obtain ⟨a1, rfl, rfl, rfl, w1⟩ := open_int Yba.underlying3 (hval 1 3 v1 rfl rfl) h1
  clear hA0 hval0
  simp only [List.append_nil] at hW'
  refine (walk a0 a1 w0 w1 W).mono fun e W' ⟨he, hg⟩ => ?_
  subst he
  exact ⟨_, rfl, post_of_same (pa := []) (pv := []) hW' (fun _ _ _ => (trodAll_cons_mk (shut_bool Yba.underlying4 _) trodAll_mk0)) (fun sp _ => (trodAll_cons_mk (shut_int Yba.underlying3 w0) (trodAll_cons_mk (shut_int Yba.underlying3 w1) trodAll_mk0))) (fun _ _ => rfl) rfl
    (hg.frame _) hg.2.1 (ok_one (by kernel_rfl) rfl (okWide_bool_mk Yba.underlying4 _))⟩

theorem over : Rows.lawS5266BTableRow.holds Yba.pinned (OpenSpec.ofChange Rows.lawS5266BTableSpec) :=
  OpenClaim.holds_of_wide 3 Yba.f3 rfl rfl rfl rfl rfl rfl rfl ⟨rfl, rfl, rfl, rfl, rfl⟩ rfl rfl rfl rfl rfl (by kernel_rfl) Yba.func3 (by kernel_rfl)
    (of_decide_eq_true (by kernel_rfl)) (by unfold Func.isWrapper; first | (rw [if_pos (by decide +kernel)]; kernel_rfl) | (rw [if_neg (by decide +kernel)]; exact ⟨rfl, rfl⟩))
    (fun os started H enc _ => lifted os started H enc)

/-- ████ THE STATEMENT ████ -/
theorem proved : Rows.LawS5266BTableSaid :=
  over

end Go.Proofs.Ybulkdeao.lawS5266BTable
