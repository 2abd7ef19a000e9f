/-
  What the kit's lock contracts do not have: TryLock of a mutex (free, held), TryLock of an RWMutex (free, held), TryRLock of an RWMutex that a writer holds, Load and Add of an atomic int32; one goroutine. After the kit's MuLone, RwLone.
-/
import Derived.Test.YbulkddveGreatRows
import Derived.Test.YbulkddveGreatLocks
import Derived.Conc.RwLoneW
import Derived.WalkKit
import Derived.WalkLawsBesides
import Derived.ProofKit
namespace Go.Proofs.YbulkddveGreat.Try
open Go.ChangeShapes Go.WideShapes Go.ChangeAt Go.RowKit
open Go.MuLone (disable enable acquire unlock_held lock_free)
open Go.RwLone (raceRead)
set_option maxRecDepth 100000

theorem hd : ∀ w, (callFunc 21 #[]).run Ybaz.prog w = .ok (.value (.tuple #[])) w := disable Ybaz.muLib
theorem he : ∀ w, (callFunc 22 #[]).run Ybaz.prog w = .ok (.value (.tuple #[])) w := enable Ybaz.muLib
theorem hq : ∀ a w, (callFunc 24 #[.pointer (some a)]).run Ybaz.prog w = .ok (.value (.tuple #[])) w := acquire Ybaz.muLib
theorem hrd : ∀ a w, (callFunc 20 #[.pointer (some a)]).run Ybaz.prog w = .ok (.value (.tuple #[])) w := raceRead Ybaz.rwCore
theorem room34 : (Ybaz.prog.info? 34).map (fun i => decide (i.size = 0)) = some false := by kernel_rfl
theorem room32 : (Ybaz.prog.info? 32).map (fun i => decide (i.size = 0)) = some false := by kernel_rfl
theorem room30 : (Ybaz.prog.info? 30).map (fun i => decide (i.size = 0)) = some false := by kernel_rfl

theorem itry_free (a : Addr) (w : World) (hc : w.cell? a = some (.int .i32 0)) (hz : w.frozen? a = false) :
    Calls Ybaz.prog 18 #[.pointer (some a)] w fun e w' => e = .returned (.bool true) ∧ w' = w.setCell a (.int .i32 1) := by
  have hd := hd; have he := he; have hq := hq
  have hc1 : (w.setCell a (.int .i32 1)).cell? a = some (.int .i32 1) := World.cell?_setCell_same w a _ hc
  have hcv := run_convert_to_unsafe (P := Ybaz.prog) (src := 71) (dst := 47) Ybaz.underlying71 Ybaz.underlying47 room32 hc1
  have hcas := run_call_cas_hit (P := Ybaz.prog) (f := 37) Ybaz.func37 (by kernel_rfl) (by kernel_rfl) (by kernel_rfl) .i32 (by kernel_rfl) (y := 1) hc hz
  go_enter Ybaz.func18, Ybaz.ntmps18
  go_wp2
  go_ret
  exact ⟨rfl, rfl⟩
theorem try_free (a : Addr) (w : World) (hc : w.cell? a = some (.int .i32 0)) (hz : w.frozen? a = false) :
    Calls Ybaz.prog 8 #[.pointer (some a)] w fun e w' => e = .returned (.bool true) ∧ w' = w.setCell a (.int .i32 1) := by
  go_enter Ybaz.func8, Ybaz.ntmps8
  go_wp2_with (go_at_call 18; refine (itry_free _ _ hc hz).mono ?_; rintro e w' ⟨rfl, rfl⟩)
  go_ret
  exact ⟨rfl, rfl⟩
theorem itry_held (a : Addr) (w : World) (hc : w.cell? a = some (.int .i32 1)) :
    Calls Ybaz.prog 18 #[.pointer (some a)] w fun e w' => e = .returned (.bool false) ∧ w' = w := by
  have hd := hd; have he := he
  go_enter Ybaz.func18, Ybaz.ntmps18
  go_wp2
  go_ret
  exact ⟨rfl, rfl⟩
theorem try_held (a : Addr) (w : World) (hc : w.cell? a = some (.int .i32 1)) :
    Calls Ybaz.prog 8 #[.pointer (some a)] w fun e w' => e = .returned (.bool false) ∧ w' = w := by
  go_enter Ybaz.func8, Ybaz.ntmps8
  go_wp2_with (go_at_call 18; refine (itry_held _ _ hc).mono ?_; rintro e w' ⟨rfl, rfl⟩)
  go_ret
  exact ⟨rfl, rfl⟩

theorem load_any (a : Addr) (x : Int) (w : World) (hc : w.cell? a = some (.int .i32 x)) :
    Calls Ybaz.prog 12 #[.pointer (some a)] w fun e w' => e = .returned (.int .i32 x) ∧ w' = w := by
  have hl := run_call_load (P := Ybaz.prog) (f := 30) Ybaz.func30 (by kernel_rfl) (by kernel_rfl) (by kernel_rfl) .i32 (by kernel_rfl) hc
  go_enter Ybaz.func12, Ybaz.ntmps12
  go_wp2
  go_ret
  exact ⟨rfl, rfl⟩
theorem add_up (a : Addr) (w : World) (hc : w.cell? a = some (.int .i32 0)) (hz : w.frozen? a = false) :
    Calls Ybaz.prog 27 #[.pointer (some a), .int .i32 1] w fun e w' => e = .returned (.int .i32 1) ∧ w' = w.setCell a (.int .i32 1) := by
  have hadd := run_call_add (P := Ybaz.prog) (f := 38) Ybaz.func38 (by kernel_rfl) (by kernel_rfl) (by kernel_rfl) .i32 (by kernel_rfl) (y := 1) (s := 1) hc hz (by simp [go_sem]; rfl)
  go_enter Ybaz.func27, Ybaz.ntmps27
  go_wp2
  go_ret
  exact ⟨rfl, rfl⟩
theorem add_down (a : Addr) (w : World) (hc : w.cell? a = some (.int .i32 1)) (hz : w.frozen? a = false) :
    Calls Ybaz.prog 27 #[.pointer (some a), .int .i32 (-1)] w fun e w' => e = .returned (.int .i32 0) ∧ w' = w.setCell a (.int .i32 0) := by
  have hadd := run_call_add (P := Ybaz.prog) (f := 38) Ybaz.func38 (by kernel_rfl) (by kernel_rfl) (by kernel_rfl) .i32 (by kernel_rfl) (y := -1) (s := 0) hc hz (by simp [go_sem]; rfl)
  go_enter Ybaz.func27, Ybaz.ntmps27
  go_wp2
  go_ret
  exact ⟨rfl, rfl⟩
theorem cas_any (a : Addr) (x y : Int) (w : World) (hc : w.cell? a = some (.int .i32 x)) (hz : w.frozen? a = false) :
    Calls Ybaz.prog 23 #[.pointer (some a), .int .i32 x, .int .i32 y] w fun e w' => e = .returned (.bool true) ∧ w' = w.setCell a (.int .i32 y) := by
  have hcas := run_call_cas_hit (P := Ybaz.prog) (f := 37) Ybaz.func37 (by kernel_rfl) (by kernel_rfl) (by kernel_rfl) .i32 (by kernel_rfl) (y := y) hc hz
  go_enter Ybaz.func23, Ybaz.ntmps23
  go_wp2
  go_ret
  exact ⟨rfl, rfl⟩

set_option maxHeartbeats 800000 in
theorem rwtry_free (b o : Nat) (x2 x3 : Value) (w : World) (c0 : w.cell? ⟨b, o, none⟩ = some (.int .i32 0)) (c2 : w.cell? ⟨b, o + 2, none⟩ = some x2) (c3 : w.cell? ⟨b, o + 3, none⟩ = some x3)
    (c4 : w.cell? ⟨b, o + 4, none⟩ = some (.int .i32 0)) (z : ∀ i, w.frozen? ⟨b, i, none⟩ = false) :
    Calls Ybaz.prog 10 #[.pointer (some ⟨b, o, none⟩)] w fun e w' => e = .returned (.bool true) ∧ w' = (w.setCell ⟨b, o, none⟩ (.int .i32 1)).setCell ⟨b, o + 4, none⟩ (.int .i32 (-1073741824)) := by
  have hd := hd; have he := he; have hq := hq; have hrd := hrd
  have hcv0 := run_convert_to_unsafe (P := Ybaz.prog) (src := 59) (dst := 47) Ybaz.underlying59 Ybaz.underlying47 room34 c0
  have k4 : (w.setCell ⟨b, o, none⟩ (.int .i32 1)).cell? ⟨b, o + 4, none⟩ = some (.int .i32 0) := (World.cell?_setCell_other _ _ _ _ (by simp)).trans c4
  have k2 : ((w.setCell ⟨b, o, none⟩ (.int .i32 1)).setCell ⟨b, o + 4, none⟩ (.int .i32 (-1073741824))).cell? ⟨b, o + 2, none⟩ = some x2 := (World.cell?_setCell_other _ _ _ _ (by simp)).trans ((World.cell?_setCell_other _ _ _ _ (by simp)).trans c2)
  have k3 : ((w.setCell ⟨b, o, none⟩ (.int .i32 1)).setCell ⟨b, o + 4, none⟩ (.int .i32 (-1073741824))).cell? ⟨b, o + 3, none⟩ = some x3 := (World.cell?_setCell_other _ _ _ _ (by simp)).trans ((World.cell?_setCell_other _ _ _ _ (by simp)).trans c3)
  have hcv2 := run_convert_to_unsafe (P := Ybaz.prog) (src := 63) (dst := 47) Ybaz.underlying63 Ybaz.underlying47 room30 k2
  have hcv3 := run_convert_to_unsafe (P := Ybaz.prog) (src := 63) (dst := 47) Ybaz.underlying63 Ybaz.underlying47 room30 k3
  have kz : (w.setCell ⟨b, o, none⟩ (.int .i32 1)).frozen? ⟨b, o + 4, none⟩ = false := by simp [z]
  go_enter Ybaz.func10, Ybaz.ntmps10
  go_wp2_with (first | (go_at_call 8; refine (try_free _ _ c0 (z _)).mono ?_; rintro e w' ⟨rfl, rfl⟩) | (go_at_call 23; refine (cas_any _ 0 (-1073741824) _ k4 kz).mono ?_; rintro e w' ⟨rfl, rfl⟩))
  go_ret
  exact ⟨rfl, rfl⟩
set_option maxHeartbeats 800000 in
theorem rwtry_held (b o : Nat) (w : World) (c0 : w.cell? ⟨b, o, none⟩ = some (.int .i32 1)) :
    Calls Ybaz.prog 10 #[.pointer (some ⟨b, o, none⟩)] w fun e w' => e = .returned (.bool false) ∧ w' = w := by
  have hd := hd; have he := he; have hq := hq; have hrd := hrd
  have hcv0 := run_convert_to_unsafe (P := Ybaz.prog) (src := 59) (dst := 47) Ybaz.underlying59 Ybaz.underlying47 room34 c0
  go_enter Ybaz.func10, Ybaz.ntmps10
  go_wp2_with (go_at_call 8; refine (try_held _ _ c0).mono ?_; rintro e w' ⟨rfl, rfl⟩)
  go_ret
  exact ⟨rfl, rfl⟩
set_option maxHeartbeats 800000 in
theorem rtry_held (b o : Nat) (x0 : Value) (w : World) (c0 : w.cell? ⟨b, o, none⟩ = some x0) (c4 : w.cell? ⟨b, o + 4, none⟩ = some (.int .i32 (-1073741824))) :
    Calls Ybaz.prog 16 #[.pointer (some ⟨b, o, none⟩)] w fun e w' => e = .returned (.bool false) ∧ w' = w := by
  have hd := hd; have he := he; have hq := hq; have hrd := hrd
  have hcv0 := run_convert_to_unsafe (P := Ybaz.prog) (src := 59) (dst := 47) Ybaz.underlying59 Ybaz.underlying47 room34 c0
  go_enter Ybaz.func16, Ybaz.ntmps16
  go_wp2
  refine wp_loop_rounds 1 ?_
  rw [rounds_succ]
  go_wp2_with (go_at_call 12; refine (load_any _ _ _ c4).mono ?_; rintro e w' ⟨rfl, rfl⟩)
  go_ret
  exact ⟨rfl, rfl⟩
end Go.Proofs.YbulkddveGreat.Try
