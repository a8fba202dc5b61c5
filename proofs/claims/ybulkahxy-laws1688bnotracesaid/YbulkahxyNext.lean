/-
  (*mapBuilder).nextBlock, (*container).aim: their contracts. The container lies in block C: its map builder from cell 5 on.
-/
import Derived.Test.YbulkahxyUv
import Derived.Deep.RegionHeld3
namespace Go.Proofs.Ybulkahxy
open Go.RowKit

/-- What nextBlock hands back and leaves. -/
def NextPost (size : Nat) (w : World) (e : Ending) (w' : World) : Prop := ∃ r k : Nat, e = .returned (.int .i64 r) ∧ size ≤ r ∧ r ≤ 262144 ∧ w' = w.drewN k

set_option maxHeartbeats 800000 in
set_option maxRecDepth 100000 in
theorem next_none (C : Nat) (va : Option Addr) (vc size : Nat) (w : World) (c5 : w.cell? ⟨C, 5, none⟩ = some (.slice va 0 vc)) (hs : size ≤ 262144) :
    Calls Yba.prog 11 #[.pointer (some ⟨C, 5, none⟩), .int .i64 size] w fun e w' => NextPost size w e w' := by
  by_cases h : 512 < size
  · go_enter Yba.func11, Yba.ntmps11
    go_wp2
    go_ret
    exact ⟨size, 0, by go_num, Nat.le_refl _, hs, rfl⟩
  · go_enter Yba.func11, Yba.ntmps11
    go_wp2
    go_ret
    exact ⟨512, 0, rfl, by omega, by omega, rfl⟩

set_option maxHeartbeats 800000 in
set_option maxRecDepth 100000 in
theorem next_some (C R nb vc size l cap : Nat) (g : Addr) (w : World) (c5 : w.cell? ⟨C, 5, none⟩ = some (.slice (some ⟨R, 0, none⟩) (nb + 1) vc)) (cl : w.cell? ⟨R, nb, none⟩ = some (.slice (some g) l cap)) (hs : size ≤ 262144) (hcap : cap ≤ 262144) (hnb : nb ≤ 300) :
    Calls Yba.prog 11 #[.pointer (some ⟨C, 5, none⟩), .int .i64 size] w fun e w' => NextPost size w e w' := by
  have hb1 : (0 : Int) ≤ (nb : Int) := by omega
  have hwr : IntKind.i64.wrap (nb : Int) = (nb : Int) := by rw [IntKind.wrap_i64]; omega
  have hwr2 : IntKind.i64.wrap (2 * (cap : Int)) = 2 * (cap : Int) := by rw [IntKind.wrap_i64]; omega
  have hb2 : (nb : Int) < (nb : Int) + 1 := by omega
  go_enter Yba.func11, Yba.ntmps11
  go_wp2
  go_region_held3 (fun w' => w'.cell? ⟨C, 5, none⟩ = some (.slice (some ⟨R, 0, none⟩) (nb + 1) vc) ∧ w'.cell? ⟨R, nb, none⟩ = some (.slice (some g) l cap)) (go_keep) (fail)
  obtain ⟨X, hX, hX1⟩ : ∃ X : Nat, (if 262144 < 2 * (cap : Int) then 262144 else 2 * (cap : Int)) = (X : Int) ∧ X ≤ 262144 := by
    by_cases hc : 262144 < 2 * (cap : Int)
    · exact ⟨262144, by rw [if_pos hc]; rfl, Nat.le_refl _⟩
    · exact ⟨2 * cap, by rw [if_neg hc]; omega, by omega⟩
  rw [hX]
  clear hX hwr hwr2 hb1 hb2
  by_cases h : (X : Int) < (size : Int)
  · go_wp2
    go_ret
    exact ⟨size, 1, by go_num, Nat.le_refl _, hs, rfl⟩
  · go_wp2
    go_ret
    exact ⟨X, 1, by go_num, by omega, hX1, rfl⟩

set_option maxHeartbeats 800000 in
/-- The container's and the trace's flag are set. -/
theorem aim_any (C T : Nat) (b0 b1 x : Value) (t : Bool) (w : World) (hx : x = .bool t) (c53 : w.cell? ⟨C, 53, none⟩ = some b0) (f53 : w.frozen? ⟨C, 53, none⟩ = false) (c49 : w.cell? ⟨C, 49, none⟩ = some (.pointer (some ⟨T, 0, none⟩))) (cT : w.cell? ⟨T, 38, none⟩ = some b1) (fT : w.frozen? ⟨T, 38, none⟩ = false) :
    Calls Yba.prog 8 #[.pointer (some ⟨C, 0, none⟩), x] w fun e w' => e = .returned (.tuple #[]) ∧ w' = (w.setCell ⟨C, 53, none⟩ (.bool t)).setCell ⟨T, 38, none⟩ (.bool t) := by
  subst hx
  have cT2 : (w.setCell ⟨C, 53, none⟩ (.bool t)).cell? ⟨T, 38, none⟩ = some b1 := (World.cell?_setCell_other _ _ _ _ (by simp)).trans cT
  go_enter Yba.func8, Yba.ntmps8
  go_wp2
  go_end0
  exact ⟨rfl, rfl⟩
end Go.Proofs.Ybulkahxy
