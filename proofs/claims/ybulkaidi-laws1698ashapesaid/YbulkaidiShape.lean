/-
  LawS1698AShape: the walk.
-/
import Derived.Test.YbulkaidiWalk
import Derived.LaidEql
import Derived.OpenShut
namespace Go.Proofs.Ybulkaidi
open Go.RowKit

theorem CrashRow.read {w : World} {b f m : Nat} (h : CrashRow w b f f m) (i : Nat) (hi : i < f) : ∃ g, w.cell? ⟨b, i * 3, none⟩ = some (.int .i64 0) ∧ w.cell? ⟨b, i * 3 + 1, none⟩ = some (.int .i64 0) ∧ w.cell? ⟨b, i * 3 + 2, none⟩ = some (.slice (some g) 0 m) := by
  obtain ⟨cur, hg, _, hr⟩ := h
  obtain ⟨h0, h1, h2⟩ := hr i hi
  obtain ⟨g, hg2⟩ := h2 hi
  exact ⟨g, (Lib.cell_of_heap hg _).trans h0, (Lib.cell_of_heap hg _).trans h1, (Lib.cell_of_heap hg _).trans hg2⟩

theorem assert27 (a : Addr) (w : World) : (Instr.typeAssert (.iface 27 (.pointer (some a))) 25 27 true).run Yba.prog w = .ok (.tuple #[.pointer (some a), .bool true]) w := by kernel_rfl

set_option maxHeartbeats 1600000 in
set_option maxRecDepth 100000 in
theorem shape_in (n f : Nat) (lossy : Int) (w : World) (hn1 : 1 ≤ n) (hn2 : n ≤ 1024) (hf : f ≤ 256) :
    Calls Yba.prog 3 #[.int .i64 n, .int .i64 f, .int .i64 lossy] w fun e w' => e = .returned (.bool true) ∧ Below w.heap.size w w' := by
  have d1 : decide ((n : Int) < 1) = false := by simp; omega
  have d2 : decide (1024 < (n : Int)) = false := by simp; omega
  have d3 : decide ((f : Int) < 0) = false := by simp
  have d4 : decide (256 < (f : Int)) = false := by simp; omega
  go_enter Yba.func3, Yba.ntmps3
  go_wp2_with fail
  refine (walk_any n f lossy _ hn1 hn2 hf).mono ?_
  rintro e w1 ⟨rfl, ⟨ls, hwalk, hls⟩, hrow, hbel⟩
  clear d1 d2 d3 d4
  have hsz : (w.alloc (Obj.cells #[Value.int IntKind.i64 lossy] 23)).heap.size = w.heap.size + 1 := by simp
  rw [hsz] at hwalk hrow
  have hbel1 : Below w.heap.size w w1 := ((Below.refl _ _).alloc (Nat.le_refl _) _).trans (hbel.mono (by rw [hsz]; omega))
  have hAdv : w1.cell? ⟨w.heap.size, 0, none⟩ = some (.int .i64 lossy) := (hbel.cell (p := ⟨w.heap.size, 0, none⟩) (by rw [hsz]; exact Nat.lt_succ_self _)).trans (by simp [go_sem])
  have as27 := assert27
  clear hbel hsz
  have c0 : w1.cell? ⟨w.heap.size + 1 + 1 + 1, 0, none⟩ = some (.int .i64 n) := Lib.cell_of_heap hwalk 0
  have c1 : w1.cell? ⟨w.heap.size + 1 + 1 + 1, 1, none⟩ = some (.int .i64 7) := Lib.cell_of_heap hwalk 1
  have c2 : w1.cell? ⟨w.heap.size + 1 + 1 + 1, 2, none⟩ = some (.int .i64 lossy) := Lib.cell_of_heap hwalk 2
  have c3 : w1.cell? ⟨w.heap.size + 1 + 1 + 1, 3, none⟩ = some (.slice (some ⟨w.heap.size + 1 + 1, 0, none⟩) f f) := Lib.cell_of_heap hwalk 3
  have HW : Hid (w1.heap[w.heap.size + 1 + 1 + 1]? = some (.cells (walkCells n lossy (w.heap.size + 1 + 1) f ls) 33 (0, 0))) := hwalk
  clear hwalk
  have n0 := World.new_ne w1 _ c0
  have n1 := World.new_ne w1 _ c1
  have n2 := World.new_ne w1 _ c2
  have n3 := World.new_ne w1 _ hAdv
  go_wp2_with fail
  go_region_held3 (fun w' => w'.cell? ⟨w.heap.size + 1 + 1 + 1, 0, none⟩ = some (.int .i64 n) ∧ w'.cell? ⟨w.heap.size + 1 + 1 + 1, 1, none⟩ = some (.int .i64 7) ∧ w'.cell? ⟨w.heap.size + 1 + 1 + 1, 2, none⟩ = some (.int .i64 lossy) ∧ w'.cell? ⟨w.heap.size, 0, none⟩ = some (.int .i64 lossy)) (go_keep)
    ((go_at_call 8; refine (lossy_any lossy _).mono ?_; rintro e w' ⟨rfl, rfl⟩))
  clear n0 n1 n2 n3 c0 c1 c2 c3 hAdv as27
  have hltw : w.heap.size + 1 + 1 + 1 < w1.heap.size := Lib.lt_of_heap HW.out
  have hwalk2 : (w1.alloc (.cells #[.int .i64 lossy] 23)).drew.heap[w.heap.size + 1 + 1 + 1]? = some (.cells (walkCells n lossy (w.heap.size + 1 + 1) f ls) 33 (0, 0)) := (Below.heap_alloc w1 _ _ hltw).trans HW.out
  have hrow2 : CrashRow (w1.alloc (.cells #[.int .i64 lossy] 23)).drew (w.heap.size + 1 + 1) f f (n - 1) := hrow.of_heap (Below.heap_alloc w1 _ _ hrow.lt)
  have hbel2 : Below w.heap.size w (w1.alloc (.cells #[.int .i64 lossy] 23)).drew := (hbel1.alloc hbel1.size _).drew
  clear HW hrow hbel1 hltw
  generalize (w1.alloc (.cells #[.int .i64 lossy] 23)).drew = w2 at *
  have c3 : w2.cell? ⟨w.heap.size + 1 + 1 + 1, 3, none⟩ = some (.slice (some ⟨w.heap.size + 1 + 1, 0, none⟩) f f) := Lib.cell_of_heap hwalk2 3
  have HW : Hid (w2.heap[w.heap.size + 1 + 1 + 1]? = some (.cells (walkCells n lossy (w.heap.size + 1 + 1) f ls) 33 (0, 0))) := hwalk2
  clear hwalk2
  go_wp2
  go_loopw [11] (fun i wr => ∃ k : Nat, k ≤ f ∧ i = .int .i64 k ∧ Hid (wr.heap[w.heap.size + 1 + 1 + 1]? = some (.cells (walkCells n lossy (w.heap.size + 1 + 1) f ls) 33 (0, 0))) ∧ CrashRow wr (w.heap.size + 1 + 1) f f (n - 1) ∧ Below w.heap.size w wr) (fun i _ => f - (intOf i).toNat)
  case atStart => exact ⟨0, Nat.zero_le _, rfl, HW, hrow2, hbel2⟩
  case round =>
    obtain ⟨k, hk, rfl, hwalk, hrow, hbel⟩ := hrel
    clear HW hrow2 hbel2 c3
    have c3 : wr.cell? ⟨w.heap.size + 1 + 1 + 1, 3, none⟩ = some (.slice (some ⟨w.heap.size + 1 + 1, 0, none⟩) f f) := Lib.cell_of_heap hwalk.out 3
    by_cases hlt : k < f
    · obtain ⟨g, r0, r1, r2⟩ := hrow.read k hlt
      have hcap : ((n - 1 : Nat) : Int) = (n : Int) - 1 := by omega
      have heq := fun w a n c => Lib.run_eql_slice_nil (P := Yba.prog) w 31 3 a n c 0 0 Yba.underlying31
      go_wp2
      go_roundw
      case rel =>
        have hltw : w.heap.size + 1 + 1 + 1 < wr.heap.size := Lib.lt_of_heap hwalk.out
        exact ⟨k + 1, by omega, by go_num, (Below.heap_alloc wr _ _ hltw).trans hwalk.out, hrow.of_heap (Below.heap_alloc wr _ _ hrow.lt), hbel.alloc hbel.size _⟩
      case measure => simp [intOf]; omega
    · have e : k = f := by omega
      subst e
      have c5 : wr.cell? ⟨w.heap.size + 1 + 1 + 1, 5, none⟩ = some (.slice none 0 0) := Lib.cell_of_heap hwalk.out 5
      have c6 : wr.cell? ⟨w.heap.size + 1 + 1 + 1, 6, none⟩ = some (.slice none 0 0) := Lib.cell_of_heap hwalk.out 6
      have heq := fun w a n c => Lib.run_eql_slice_nil (P := Yba.prog) w 31 3 a n c 0 0 Yba.underlying31
      rcases hls with ⟨hl, g, rfl⟩ | ⟨hl, rfl⟩
      · have c4 : wr.cell? ⟨w.heap.size + 1 + 1 + 1, 4, none⟩ = some (.slice (some g) 0 0) := Lib.cell_of_heap hwalk.out 4
        have heq30 := fun w a n c => Lib.run_eql_slice_nil (P := Yba.prog) w 30 94 a n c 0 0 Yba.underlying30
        go_wp2
        go_ret
        exact ⟨rfl, hbel⟩
      · have c4 : wr.cell? ⟨w.heap.size + 1 + 1 + 1, 4, none⟩ = some (.slice none 0 0) := Lib.cell_of_heap hwalk.out 4
        have hneq30 := fun w a n c => run_neq_slice_nil_any (P := Yba.prog) w 30 94 a n c 0 0 Yba.underlying30
        go_wp2
        go_ret
        exact ⟨rfl, hbel⟩

set_option maxHeartbeats 800000 in
theorem shape_walk (a0 a1 a2 : Int) (w0 : (Lit.int .i64 a0).wf = true) (w1 : (Lit.int .i64 a1).wf = true) (w : World) :
    Calls Yba.prog 3 #[.int .i64 a0, .int .i64 a1, .int .i64 a2] w fun e w' => e = .returned (.bool true) ∧ Below w.heap.size w w' := by
  have b0 := bounds_i64 w0
  have b1 := bounds_i64 w1
  clear w0 w1
  by_cases h1 : a0 < 1
  · go_enter Yba.func3, Yba.ntmps3
    go_wp2
    go_ret
    exact ⟨rfl, Below.refl _ _⟩
  by_cases h2 : 1024 < a0
  · go_enter Yba.func3, Yba.ntmps3
    go_wp2
    go_ret
    exact ⟨rfl, Below.refl _ _⟩
  by_cases h3 : a1 < 0
  · go_enter Yba.func3, Yba.ntmps3
    go_wp2
    go_ret
    exact ⟨rfl, Below.refl _ _⟩
  by_cases h4 : 256 < a1
  · go_enter Yba.func3, Yba.ntmps3
    go_wp2
    go_ret
    exact ⟨rfl, Below.refl _ _⟩
  obtain ⟨n, rfl⟩ := Int.eq_ofNat_of_zero_le (show 0 ≤ a0 by omega)
  obtain ⟨f, rfl⟩ := Int.eq_ofNat_of_zero_le (show 0 ≤ a1 by omega)
  exact shape_in n f a2 w (by omega) (by omega) (by omega)
end Go.Proofs.Ybulkaidi
