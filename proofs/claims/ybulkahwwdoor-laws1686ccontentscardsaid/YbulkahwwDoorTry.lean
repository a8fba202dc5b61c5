/-
  (*sync.Mutex).TryLock, the lock free and nobody waiting (state 0): it is taken (state 1): true.
-/
import Derived.Test.YbulkahwwDoorLog
namespace Go.Proofs.YbulkahwwDoor
open Go.RowKit Go.MuLone

theorem room30 : (Ybad.prog.info? 30).map (fun i => decide (i.size = 0)) = some false := by kernel_rfl

/-- A pointer to the lock, as a bare address: the same address; nothing is made. (The kit has this law under a name that may not stand in a claim's text: so it is shown here anew.) -/
theorem conv_bare {a : Addr} {v : Value} {w : World} (hc : w.cell? a = some v) : (convert 55 59 (.pointer (some a))).run Ybad.prog w = .ok (.pointer (some a)) w := by
  obtain ⟨e, n, hsh, hlt, hsp⟩ := World.shape?_of_cell? hc
  obtain ⟨i, hi, hz0⟩ := Option.map_eq_some_iff.1 room30
  have hz : i.size ≠ 0 := by simpa using hz0
  have hge : ¬ (n ≤ a.off) := by omega
  simp only [convert, Sem.run_bind, run_underlying Ybad.underlying55, run_underlying Ybad.underlying59, Result.andThen_ok]
  change Sem.run Ybad.prog (underlying 55 >>= _) w = _
  simp [Conv.seenAt, viewAt, cellsIn, sizeOf, typeInfo, run_underlying Ybad.underlying55, run_underlying Ybad.underlying59, hi, hz, hsh, hge, Result.andThen]

set_option maxHeartbeats 800000 in
theorem itry_free (a : Addr) (w : World) (hc : w.cell? a = some (.int .i32 0)) (hz : w.frozen? a = false) :
    Calls Ybad.prog 13 #[.pointer (some a)] w fun e w' => e = .returned (.bool true) ∧ w' = w.setCell a (.int .i32 1) := by
  have hd := disable Ybad.muLib
  have he := enable Ybad.muLib
  have ha := acquire Ybad.muLib
  have hcas := run_call_cas_hit (P := Ybad.prog) Ybad.func20 (by kernel_rfl) (by kernel_rfl) (by kernel_rfl) .i32 (by kernel_rfl) (y := 1) hc hz
  have hc' : (w.setCell a (.int .i32 1)).cell? a = some (.int .i32 1) := by simp [go_sem, hc]
  have hcv := conv_bare hc'
  go_enter Ybad.func13, Ybad.ntmps13
  go_wp2
  go_ret
  exact ⟨rfl, rfl⟩

set_option maxHeartbeats 800000 in
theorem try_free (a : Addr) (w : World) (hc : w.cell? a = some (.int .i32 0)) (hz : w.frozen? a = false) :
    Calls Ybad.prog 8 #[.pointer (some a)] w fun e w' => e = .returned (.bool true) ∧ w' = w.setCell a (.int .i32 1) := by
  go_enter Ybad.func8, Ybad.ntmps8
  go_wp2_with fail
  refine (itry_free a _ hc hz).mono ?_
  rintro e w' ⟨rfl, rfl⟩
  go_wp2
  go_ret
  exact ⟨rfl, rfl⟩
end Go.Proofs.YbulkahwwDoor
