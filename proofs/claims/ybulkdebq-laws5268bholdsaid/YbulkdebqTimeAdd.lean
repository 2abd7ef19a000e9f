/-
  time.Time{}.Add, its callees by contracts.
-/
import Derived.Test.YbulkdebqRows
import Derived.Test.YbulkdebqTimePlain
import Derived.WalkKit
import Derived.WalkLawsBesides
import Derived.ProofKit
namespace Go.Proofs.Ybulkdebq.TimeAdd
open Go.ChangeShapes Go.WideShapes Go.ChangeAt Go.RowKit TimePlain

theorem nsec_any (b o : Nat) (m : Int) (w : World) (h1 : 0 ≤ m) (h2 : m ≤ 999999999) (hc : w.cell? ⟨b, o, none⟩ = some (.int .u64 m)) :
    Calls Yba.prog 10 #[.pointer (some ⟨b, o, none⟩)] w fun e w' => e = .returned (.int .i32 m) ∧ w' = w := by
  have hm := and_mask m h1 h2
  go_enter Yba.func10, Yba.ntmps10
  go_wp2
  go_ret
  exact ⟨rfl, rfl⟩

set_option maxHeartbeats 400000 in
theorem addSec_any (b o : Nat) (m s : Int) (w : World) (h1 : 0 ≤ m) (h2 : m ≤ 999999999) (hs1 : -9223372038 ≤ s) (hs2 : s ≤ 9223372038)
    (hc : w.cell? ⟨b, o, none⟩ = some (.int .u64 m)) (hc1 : w.cell? ⟨b, o + 1, none⟩ = some (.int .i64 0)) (hf : w.frozen? ⟨b, o + 1, none⟩ = false) :
    Calls Yba.prog 11 #[.pointer (some ⟨b, o, none⟩), .int .i64 s] w fun e w' => e = .returned (.tuple #[]) ∧ w' = w.setCell ⟨b, o + 1, none⟩ (.int .i64 s) := by
  have hm := and_63 m h1 h2
  by_cases hp : 0 < s
  · go_enter Yba.func11, Yba.ntmps11
    go_wp2
    go_end0
    exact ⟨rfl, rfl⟩
  · go_enter Yba.func11, Yba.ntmps11
    go_wp2
    go_end0
    exact ⟨rfl, rfl⟩

theorem andNot_zero : bits .andNot .u64 0 1073741823 = 0 := by decide

set_option maxHeartbeats 1000000 in
/-- 'time.Time{}.Add(d)': some time without a monotonic part and without a location. -/
theorem add_zero (d : Int) (w : World) (hd1 : -9223372036854775808 ≤ d) (hd2 : d ≤ 9223372036854775807) :
    Calls Yba.prog 4 #[.agg #[.int .u64 0, .int .i64 0, .pointer none], .int .i64 d] w fun e w' =>
      ∃ x y : Int, e = .returned (.agg #[.int .u64 x, .int .i64 y, .pointer none]) ∧ 0 ≤ x ∧ x ≤ 999999999 ∧
        w' = (w.alloc (.cells #[.int .u64 x, .int .i64 y, .pointer none] 26)).alloc (.cells #[.int .u64 x, .int .i64 y, .pointer none] 26) := by
  obtain ⟨b1, b2⟩ := tdiv_bd d hd1 hd2
  obtain ⟨b3, b4⟩ := tmod_bd d
  obtain ⟨s, e1⟩ : ∃ s, d.tdiv 1000000000 = s := ⟨_, rfl⟩
  obtain ⟨m, e2⟩ : ∃ m, d.tmod 1000000000 = m := ⟨_, rfl⟩
  rw [e1] at b1 b2
  rw [e2] at b3 b4
  have z := andNot_zero
  by_cases hm : 0 ≤ m
  · have o1 := or_zero m hm b4
    have a1 := and_63 m hm b4
    go_enter Yba.func4, Yba.ntmps4
    go_wp2_with (first | (go_at_call 10; refine (nsec_any _ _ 0 _ (by omega) (by omega) (by simp)).mono ?_; rintro e w' ⟨rfl, rfl⟩) | (go_at_call 11; refine (addSec_any _ _ m s _ hm b4 (by omega) (by omega) (by simp) (by simp) (by simp)).mono ?_; rintro e w' ⟨rfl, rfl⟩))
    exact bodyPost_ret (v := .agg #[.int .u64 m, .int .i64 s, .pointer none]) (by simp [results, Yba.results4, go_sem]) rfl ⟨m, s, rfl, hm, b4, rfl⟩
  · have o1 := or_zero (m + 1000000000) (by omega) (by omega)
    have a1 := and_63 (m + 1000000000) (by omega) (by omega)
    go_enter Yba.func4, Yba.ntmps4
    go_wp2_with (first | (go_at_call 10; refine (nsec_any _ _ 0 _ (by omega) (by omega) (by simp)).mono ?_; rintro e w' ⟨rfl, rfl⟩) | (go_at_call 11; refine (addSec_any _ _ (m + 1000000000) (s - 1) _ (by omega) (by omega) (by omega) (by omega) (by simp) (by simp) (by simp)).mono ?_; rintro e w' ⟨rfl, rfl⟩))
    exact bodyPost_ret (v := .agg #[.int .u64 (m + 1000000000), .int .i64 (s - 1), .pointer none]) (by simp [results, Yba.results4, go_sem]) rfl ⟨m + 1000000000, s - 1, rfl, by omega, by omega, rfl⟩
end Go.Proofs.Ybulkdebq.TimeAdd
