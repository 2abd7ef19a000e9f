/-
  (*sync.Mutex).TryLock on a mutex that is free: it is taken. After the kit's Derived/Conc/MuLone.lean (which has Lock and Unlock).
-/
import Derived.Test.YbulkdebcDoorRows
import Derived.Test.YbulkdebcDoorLocks
import Derived.Conc.MuLone
import Derived.WalkKit
import Derived.WalkLawsBesides
import Derived.ProofKit
namespace Go.Proofs.YbulkdebcDoor.Try
open Go.ChangeShapes Go.WideShapes Go.ChangeAt Go.RowKit Go.MuLone

set_option maxRecDepth 100000 in
theorem itry_free (a : Addr) (w : World) (hc : w.cell? a = some (.int .i32 0)) (hz : w.frozen? a = false) :
    Calls Ybad.prog 13 #[.pointer (some a)] w fun e w' => e = .returned (.bool true) ∧ w' = w.setCell a (.int .i32 1) := by
  have hd : ∀ w, (callFunc 17 #[]).run Ybad.prog w = .ok (.value (.tuple #[])) w := disable Ybad.muLib
  have he : ∀ w, (callFunc 18 #[]).run Ybad.prog w = .ok (.value (.tuple #[])) w := enable Ybad.muLib
  have hq : ∀ a w, (callFunc 20 #[.pointer (some a)]).run Ybad.prog w = .ok (.value (.tuple #[])) w := acquire Ybad.muLib
  have hc1 : (w.setCell a (.int .i32 1)).cell? a = some (.int .i32 1) := World.cell?_setCell_same w a _ hc
  have hcv := run_convert_to_unsafe (P := Ybad.prog) (src := 76) (dst := 80) Ybad.muLib.underlying_tPIMutex Ybad.muLib.underlying_tUP Ybad.muLib.room_tIMutex hc1
  have hcas := run_call_cas_hit (P := Ybad.prog) (f := 19) Ybad.muLib.f_cas32 (by kernel_rfl) (by kernel_rfl) (by kernel_rfl) .i32 (by kernel_rfl) (y := 1) hc hz
  go_enter Ybad.func13, Ybad.ntmps13
  go_wp2
  go_ret
  exact ⟨rfl, rfl⟩

set_option maxRecDepth 100000 in
theorem try_free (a : Addr) (w : World) (hc : w.cell? a = some (.int .i32 0)) (hz : w.frozen? a = false) :
    Calls Ybad.prog 6 #[.pointer (some a)] w fun e w' => e = .returned (.bool true) ∧ w' = w.setCell a (.int .i32 1) := by
  go_enter Ybad.func6, Ybad.ntmps6
  go_wp2_with (go_at_call 13; refine (itry_free _ _ hc hz).mono ?_; rintro e w' ⟨rfl, rfl⟩)
  go_ret
  exact ⟨rfl, rfl⟩
end Go.Proofs.YbulkdebcDoor.Try
