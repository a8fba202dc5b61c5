/-
  (*sync.Mutex).TryLock, the lock free and nobody waiting (state 0): it is taken (state 1): true.
-/
import Derived.Test.YbulkahwwDoorLog
namespace Go.Proofs.YbulkahwwDoor
open Go.RowKit Go.MuLone

theorem room30 : (Ybad.prog.info? 30).map (fun i => decide (i.size = 0)) = some false := by kernel_rfl

set_option maxHeartbeats 800000 in
theorem itry_free (a : Addr) (w : World) (hc : w.cell? a = some (.int .i32 0)) (hz : w.frozen? a = false) :
    Calls Ybad.prog 13 #[.pointer (some a)] w fun e w' => e = .returned (.bool true) ∧ w' = w.setCell a (.int .i32 1) := by
  have hd := disable Ybad.muLib
  have he := enable Ybad.muLib
  have ha := acquire Ybad.muLib
  have hcas := run_call_cas_hit (P := Ybad.prog) Ybad.func20 (by kernel_rfl) (by kernel_rfl) (by kernel_rfl) .i32 (by kernel_rfl) (y := 1) hc hz
  have hc' : (w.setCell a (.int .i32 1)).cell? a = some (.int .i32 1) := by simp [go_sem, hc]
  have hcv := run_convert_to_unsafe (P := Ybad.prog) (src := 55) (dst := 59) Ybad.underlying55 Ybad.underlying59 room30 hc'
  go_enter Ybad.func13, Ybad.ntmps13
  go_wp2
  go_ret
  exact ⟨rfl, rfl⟩

set_option maxHeartbeats 800000 in
theorem try_free (a : Addr) (w : World) (hc : w.cell? a = some (.int .i32 0)) (hz : w.frozen? a = false) :
    Calls Ybad.prog 8 #[.pointer (some a)] w fun e w' => e = .returned (.bool true) ∧ w' = w.setCell a (.int .i32 1) := by
  go_enter Ybad.func8, Ybad.ntmps8
  go_wp2_with fail
  refine (itry_free a _ hc hz).mono ?_
  rintro e w' ⟨rfl, rfl⟩
  go_wp2
  go_ret
  exact ⟨rfl, rfl⟩
end Go.Proofs.YbulkahwwDoor
