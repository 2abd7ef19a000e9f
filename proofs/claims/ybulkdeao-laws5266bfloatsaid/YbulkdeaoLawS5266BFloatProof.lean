/-
  A PROOF OF 'Rows.LawS5266BFloatSaid' ('example.com/tamis/tamis.LawS5266BFloat'). The frame is the shell's (proof-skeleton.mjs); the walk and the contracts are this seat's.
-/
import Derived.Test.YbulkdeaoFloatPlain
import Derived.WalkLawsBesides
import Derived.Test.YbulkdeaoRows
import Derived.WalkKit
import Derived.ProofKit
import Derived.OpenShut
import Derived.ShutString
namespace Go.Proofs.Ybulkdeao.lawS5266BFloat
open Go.ChangeShapes Go.WideShapes Go.ChangeAt Go.RowKit
open Go.ChangeMaps (open_string shut_string)
set_option linter.unusedVariables false      -- a walk need not use every 'w<i>' (that an integer argument fits its kind)

theorem own : ownKnob Yba.prog.godebug = none := by kernel_rfl

/-- what 'holds' answers -/
def hol (op c : Int) : Bool :=
  if op = 0 then c == 0 else if op = 1 then c != 0 else if op = 2 then decide (c < 0)
  else if op = 3 then decide (c ≤ 0) else if op = 4 then decide (0 < c) else decide (0 ≤ c)

theorem hol_any (op c : Int) (w : World) :
    Calls Yba.prog 5 #[.int .i64 op, .int .i64 c] w fun e w' => e = .returned (.bool (hol op c)) ∧ w' = w := by
  by_cases h0 : op = 0
  · subst h0
    go_enter Yba.func5, Yba.ntmps5
    go_wp2
    go_ret
    exact ⟨rfl, rfl⟩
  by_cases h1 : op = 1
  · subst h1
    go_enter Yba.func5, Yba.ntmps5
    go_wp2
    go_ret
    exact ⟨rfl, rfl⟩
  by_cases h2 : op = 2
  · subst h2
    go_enter Yba.func5, Yba.ntmps5
    go_wp2
    go_ret
    exact ⟨rfl, rfl⟩
  by_cases h3 : op = 3
  · subst h3
    go_enter Yba.func5, Yba.ntmps5
    go_wp2
    go_ret
    exact ⟨rfl, rfl⟩
  by_cases h4 : op = 4
  · subst h4
    go_enter Yba.func5, Yba.ntmps5
    go_wp2
    go_ret
    exact ⟨rfl, rfl⟩
  · have es : hol op c = decide (0 ≤ c) := by simp [hol, h0, h1, h2, h3, h4]
    rw [es]
    go_enter Yba.func5, Yba.ntmps5
    go_wp2
    go_ret
    exact ⟨rfl, rfl⟩

/-- what 'holdsFloat' answers, out of the order of the two words -/
def holF (op : Int) (o : Option Ordering) : Bool :=
  if op = 0 then o == some .eq else if op = 1 then o != some .eq else if op = 2 then (!(o == some .gt) && !(o == some .eq))
  else if op = 3 then !(o == some .gt) else if op = 4 then o == some .gt else (o == some .gt || o == some .eq)

theorem holF_any (op : Int) (a b : Nat) (w : World) :
    Calls Yba.prog 7 #[.int .i64 op, .float .f64 a, .float .f64 b] w fun e w' => e = .returned (.bool (holF op (FloatKind.f64.format.order a b))) ∧ w' = w := by
  by_cases h0 : op = 0
  · subst h0
    go_enter Yba.func7, Yba.ntmps7
    go_wp2
    go_ret
    exact ⟨rfl, rfl⟩
  by_cases h1 : op = 1
  · subst h1
    go_enter Yba.func7, Yba.ntmps7
    go_wp2
    go_ret
    exact ⟨rfl, rfl⟩
  by_cases h2 : op = 2
  · subst h2
    go_enter Yba.func7, Yba.ntmps7
    go_wp2
    go_ret
    exact ⟨rfl, rfl⟩
  by_cases h3 : op = 3
  · subst h3
    go_enter Yba.func7, Yba.ntmps7
    go_wp2
    go_ret
    exact ⟨rfl, rfl⟩
  by_cases h4 : op = 4
  · subst h4
    go_enter Yba.func7, Yba.ntmps7
    go_wp2
    go_ret
    exact ⟨rfl, rfl⟩
  · have es : holF op (FloatKind.f64.format.order a b) = (FloatKind.f64.format.order a b == some .gt || FloatKind.f64.format.order a b == some .eq) := by simp [holF, h0, h1, h2, h3, h4]
    rw [es]
    go_enter Yba.func7, Yba.ntmps7
    go_wp2
    go_ret
    exact ⟨rfl, rfl⟩

theorem agree_lt (op : Int) : (hol op (-1) == holF op (some .lt)) = true := by
  unfold hol holF; repeat' split
  all_goals rfl
theorem agree_eq (op : Int) : (hol op 0 == holF op (some .eq)) = true := by
  unfold hol holF; repeat' split
  all_goals rfl
theorem agree_gt (op : Int) : (hol op 1 == holF op (some .gt)) = true := by
  unfold hol holF; repeat' split
  all_goals rfl

theorem walk (a0 : Int) (a1 : Int) (a2 : Int) (w0 : (Lit.int .u8 a0).wf = true) (w1 : (Lit.int .i32 a1).wf = true) (w2 : (Lit.int .i32 a2).wf = true) (w : World) :
    Calls Yba.prog 4 #[.int .u8 a0, .int .i32 a1, .int .i32 a2] w fun e w' => e = .returned (.bool true) ∧ Grown w w' := by
  have b0 : 0 ≤ a0 ∧ a0 ≤ 255 := bounds_u8 w0
  have b1 : -2147483648 ≤ a1 ∧ a1 ≤ 2147483647 := bounds_i32 w1
  have b2 : -2147483648 ≤ a2 ∧ a2 ≤ 2147483647 := bounds_i32 w2
  obtain ⟨b00, b01⟩ := b0
  by_cases hl : a1 < a2
  · have hag := agree_lt (a0 % 8)
    rw [← FloatPlain.ord_lt a1 a2 (by omega) (by omega) hl] at hag
    clear b1 b2 w0 w1 w2
    go_enter Yba.func4, Yba.ntmps4
    go_wp2_with (first | (go_at_call 5; refine (hol_any _ _ _).mono ?_; rintro e w' ⟨rfl, rfl⟩) | (go_at_call 7; refine (holF_any _ _ _ _).mono ?_; rintro e w' ⟨rfl, rfl⟩))
    go_ret
    exact ⟨rfl, Grown.refl _⟩
  by_cases hg : a2 < a1
  · have hag := agree_gt (a0 % 8)
    rw [← FloatPlain.ord_gt a1 a2 (by omega) (by omega) hg] at hag
    clear b1 b2 w0 w1 w2
    go_enter Yba.func4, Yba.ntmps4
    go_wp2_with (first | (go_at_call 5; refine (hol_any _ _ _).mono ?_; rintro e w' ⟨rfl, rfl⟩) | (go_at_call 7; refine (holF_any _ _ _ _).mono ?_; rintro e w' ⟨rfl, rfl⟩))
    go_ret
    exact ⟨rfl, Grown.refl _⟩
  · have hz : a1 = a2 := by omega
    have hag := agree_eq (a0 % 8)
    rw [← FloatPlain.ord_eq a1 a2 (by omega) (by omega) hz] at hag
    subst hz
    clear b1 b2 w0 w1 w2
    go_enter Yba.func4, Yba.ntmps4
    go_wp2_with (first | (go_at_call 5; refine (hol_any _ _ _).mono ?_; rintro e w' ⟨rfl, rfl⟩) | (go_at_call 7; refine (holF_any _ _ _ _).mono ?_; rintro e w' ⟨rfl, rfl⟩))
    go_ret
    exact ⟨rfl, Grown.refl _⟩

/-! ### THE ROW's STEP: WRITTEN OUT: LEAVE IT -/
set_option maxRecDepth 100000 in
theorem lifted (os : Os) (started : os.Started) (H : Type) (enc : TypeId × Value → H) :
    ReturnsInHanded {} Yba.checked os 4 .any (Rows.lawS5266BFloatSpec.pre6 enc Yba.prog Yba.f4 Rows.lawS5266BFloatRow.domain false) (Rows.lawS5266BFloatSpec.post enc Yba.prog Yba.f4 false true false false) := by
  refine returnsInHanded_of_change (C := Yba.checked) own started (by kernel_rfl) Yba.func4
    (ChangeSpec.witness6 (enc := enc) (C := Yba.checked) false ⟨#[], #[.int .u8 0, .int .i32 0, .int .i32 0], []⟩ 8 (by kernel_rfl) (by kernel_rfl) (by kernel_rfl) (by kernel_rfl)) ?_
  intro W base args ds gs before hval0 hW hcnd _
  have hval : ∀ (j : Nat) t v, Yba.f4.params[j]? = some t → args[j]? = some v → Value.okWide Yba.prog W .any base t v := hval0
  have hW' := hW
  obtain ⟨p, q, hA0, hV, rfl, hfz, hnd⟩ := hW
  have hA : DataW.TrodAll enc Yba.prog W 0 (fun _ => true) true Yba.f4.params.toList args.toList ds p := hA0
  rw [Yba.params4] at hA hval
  obtain ⟨v0, vs0, d0, ds0, p0, q0, hargs, rfl, rfl, h0, r0⟩ := trodAll_cons hA
  obtain ⟨v1, vs1, d1, ds1, p1, q1, rfl, rfl, rfl, h1, r1⟩ := trodAll_cons r0
  obtain ⟨v2, vs2, d2, ds2, p2, q2, rfl, rfl, rfl, h2, r2⟩ := trodAll_cons r1
  obtain ⟨rfl, rfl, rfl⟩ := trodAll_nil r2
  obtain rfl : args = #[v0, v1, v2] := by cases args; simp_all
  obtain ⟨rfl, rfl⟩ := trodVars_none hV
  obtain ⟨a0, rfl, rfl, rfl, w0⟩ := open_int Yba.underlying5 (hval 0 5 v0 rfl rfl) h0
  obtain ⟨a1, rfl, rfl, rfl, w1⟩ := open_int Yba.underlying21 (hval 1 21 v1 rfl rfl) h1
  obtain ⟨a2, rfl, rfl, rfl, w2⟩ := open_int Yba.underlying21 (hval 2 21 v2 rfl rfl) h2
  clear hA0 hval0
  simp only [List.append_nil] at hW'
  refine (walk a0 a1 a2 w0 w1 w2 W).mono fun e W' ⟨he, hg⟩ => ?_
  subst he
  exact ⟨_, rfl, post_of_same (pa := []) (pv := []) hW' (fun _ _ _ => (trodAll_cons_mk (shut_bool Yba.underlying4 _) trodAll_mk0)) (fun sp _ => (trodAll_cons_mk (shut_int Yba.underlying5 w0) (trodAll_cons_mk (shut_int Yba.underlying21 w1) (trodAll_cons_mk (shut_int Yba.underlying21 w2) trodAll_mk0)))) (fun _ _ => rfl) rfl
    (hg.frame _) hg.2.1 (ok_one (by kernel_rfl) rfl (okWide_bool_mk Yba.underlying4 _))⟩

theorem over : Rows.lawS5266BFloatRow.holds Yba.pinned (OpenSpec.ofChange Rows.lawS5266BFloatSpec) :=
  OpenClaim.holds_of_wide 4 Yba.f4 rfl rfl rfl rfl rfl rfl rfl ⟨rfl, rfl, rfl, rfl, rfl⟩ rfl rfl rfl rfl rfl (by kernel_rfl) Yba.func4 (by kernel_rfl)
    (of_decide_eq_true (by kernel_rfl)) (by unfold Func.isWrapper; first | (rw [if_pos (by decide +kernel)]; kernel_rfl) | (rw [if_neg (by decide +kernel)]; exact ⟨rfl, rfl⟩))
    (fun os started H enc _ => lifted os started H enc)

/-- ████ THE STATEMENT ████ -/
theorem proved : Rows.LawS5266BFloatSaid :=
  over
end Go.Proofs.Ybulkdeao.lawS5266BFloat
