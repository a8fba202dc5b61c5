/-
  (*serverLog).String, over a log that the call has made: a sync.Mutex at offset 0, a bytes.Buffer at offset 2 of block b.
-/
import Derived.Test.YbulkahwwDoorRows
import Derived.Test.YbulkahwwDoorLocks
import Derived.Test.YbulkahwwDoorBuf
import Derived.Conc.MuLone
import Derived.WalkKit
import Derived.WalkSpells
import Derived.WalkLawsBesides
import Derived.Lib.Hide
import Derived.Lib.Strings
namespace Go.Proofs.YbulkahwwDoor
open Go.RowKit Go.MuLone

/-- What the log's other cells hold: the lock is free. -/
def Free (R : Nat → Option Value) : Prop := R 0 = some (.int .i32 0)

theorem back (R : Nat → Option Value) (hR : Free R) : (fun j => if j = 0 then some (.int .i32 0) else (if j = 0 then some (Value.int .i32 1) else R j)) = R := by
  funext j
  by_cases h : j = 0
  · subst h; rw [if_pos rfl]; exact hR.symm
  · rw [if_neg h, if_neg h]

theorem buf_string (T : TypeId) (R : Nat → Option Value) (B b q : Nat) (s : ByteArray) (w : World) (h : LibA.IsBuffer T R 5 B b q (Lib.byteCells s.data.toList) w) :
    Calls Ybad.prog 12 #[.pointer (some ⟨b, q, none⟩)] w fun e w' => e = .returned (.string s) ∧ ∃ n, w' = w.drewN n := by
  have := Ybad.Buffer_String_at T R B b q s.data.toList w h
  rwa [Lib.mk_data] at this

set_option maxHeartbeats 800000 in
set_option maxRecDepth 100000 in
theorem string_any (R : Nat → Option Value) (B b : Nat) (s : ByteArray) (w : World) (h : LibA.IsBuffer 40 R 5 B b 2 (Lib.byteCells s.data.toList) w) (hR : Free R) :
    Calls Ybad.prog 6 #[.pointer (some ⟨b, 0, none⟩)] w fun e w' => e = .returned (.string s) ∧ LibA.IsBuffer 40 R 5 B b 2 (Lib.byteCells s.data.toList) w' ∧ Below B w w' := by
  have hB : B ≤ b := h.1
  have c0 : w.cell? ⟨b, 0, none⟩ = some (.int .i32 0) := (h.rest 0 (Or.inl (by omega))).trans hR
  have f0 : w.frozen? ⟨b, 0, none⟩ = false := h.notFrozen 0
  have i1 := h.setOther 0 (Or.inl (by omega)) hR (.int .i32 1)
  have c1 : (w.setCell ⟨b, 0, none⟩ (.int .i32 1)).cell? ⟨b, 0, none⟩ = some (.int .i32 1) := World.cell?_setCell_same _ _ _ c0
  go_enter_defers Ybad.func6, Ybad.ntmps6
  go_wp2_with (go_at_call 11; refine (lock_free Ybad.muLib ⟨b, 0, none⟩ _ c0 f0).mono ?_; rintro e w' ⟨rfl, rfl⟩)
  refine (buf_string 40 _ B b 2 s _ i1).mono ?_
  rintro e w1 ⟨rfl, n, rfl⟩
  go_wp2
  refine leaves_cons (f := 9) (args := #[.pointer (some ⟨b, 0, none⟩)]) (by simp) (by simp [go_sem]) ?_
  refine (unlock_deferred Ybad.muLib ⟨b, 0, none⟩ .returning _ ?_ ?_).mono ?_
  · exact c1
  · exact i1.notFrozen 0
  rintro e u' w'' ⟨rfl, rfl, rfl⟩
  have i2 := (i1.drewN n).setOther 0 (Or.inl (by omega)) (old := .int .i32 1) (if_pos rfl) (.int .i32 0)
  rw [back R hR] at i2
  have hbel : Below B w (((w.setCell ⟨b, 0, none⟩ (.int .i32 1)).drewN n).setCell ⟨b, 0, none⟩ (.int .i32 0)) :=
    (below_drewN ((Below.refl B w).setCell (p := ⟨b, 0, none⟩) hB _) n).setCell (p := ⟨b, 0, none⟩) hB _
  exact ⟨_, results_tmp rfl _ _ _, rfl, i2, hbel⟩
end Go.Proofs.YbulkahwwDoor
