/-
  zzs1686cbuild: a new log, the parts written one behind the other; beside it the same text by '+='.
-/
import Derived.Test.YbulkahwwDoorRepeat
import Derived.Deep.RegionHeld3
namespace Go.Proofs.YbulkahwwDoor
open Go.RowKit Go.MuLone

/-- The parts lie in memory: cell i holds the i-th text. -/
def PartsRow (w : World) (b off n : Nat) (ss : Nat → ByteArray) : Prop := ∀ i, i < n → w.cell? ⟨b, off + i, none⟩ = some (.string (ss i))

/-- The first k parts, one behind the other. -/
def joined (ss : Nat → ByteArray) : Nat → ByteArray
  | 0 => ⟨#[]⟩
  | k + 1 => joined ss k ++ ss k

theorem joined_size (ss : Nat → ByteArray) (n : Nat) (hs : ∀ i, i < n → (ss i).size ≤ 4096) : ∀ k, k ≤ n → (joined ss k).size ≤ 4096 * k
  | 0, _ => Nat.zero_le _
  | k + 1, h => by
    have h1 := joined_size ss n hs k (by omega)
    have h2 := hs k (by omega)
    simp only [joined, ByteArray.size_append]
    omega

set_option maxHeartbeats 800000 in
set_option maxRecDepth 100000 in
theorem build_row (pb po n cap : Nat) (ss : Nat → ByteArray) (w : World) (hn : n ≤ 256) (hpb : pb < w.heap.size) (hrow : PartsRow w pb po n ss) (hs : ∀ i, i < n → (ss i).size ≤ 4096) :
    Calls Ybad.prog 5 #[.slice (some ⟨pb, po, none⟩) n cap] w fun e w' => e = .returned (.tuple #[.pointer (some ⟨w.heap.size, 0, none⟩), .string (joined ss n)]) ∧
      LibA.IsBuffer 40 newRest 5 w.heap.size w.heap.size 2 (Lib.byteCells (joined ss n).data.toList) w' ∧ Below w.heap.size w w' := by
  go_enter Ybad.func5, Ybad.ntmps5
  go_wp2
  go_loopw [5, 6] (fun t i wr => ∃ k : Nat, k ≤ n ∧ i = .int .i64 k ∧ t = .string (joined ss k) ∧ LibA.IsBuffer 40 newRest 5 w.heap.size w.heap.size 2 (Lib.byteCells (joined ss k).data.toList) wr ∧ Below w.heap.size w wr) (fun _ i _ => n - (intOf i).toNat)
  case atStart => exact ⟨0, Nat.zero_le _, rfl, rfl, newLog_isBuffer w, (Below.refl _ _).alloc (Nat.le_refl _) _⟩
  case round =>
    obtain ⟨k, hk, rfl, rfl, hbuf, hbel⟩ := hrel
    have hsz := joined_size ss n hs k hk
    by_cases hlt : k < n
    · have c0 := hrow k hlt
      rw [← hbel.cell (p := ⟨pb, po + k, none⟩) hpb] at c0
      have hsk := hs k hlt
      have HB : Hid (LibA.IsBuffer 40 newRest 5 w.heap.size w.heap.size 2 (Lib.byteCells (joined ss k).data.toList) wr.drew) := hbuf.drew
      have HE : Hid (Below w.heap.size w wr) := hbel
      have hlim : (Lib.byteCells (joined ss k).data.toList).length + (ss k).size ≤ 140737488355328 := by rw [Lib.byteCells_length, ← Lib.size_eq]; omega
      clear hbuf hbel hs hrow
      go_wp2_with fail
      go_region_held3 (fun w' => w'.cell? ⟨pb, po + k, none⟩ = some (.string (ss k))) (go_keep)
        ((go_at_call 10; refine (Ybad.Buffer_WriteString_at 40 newRest w.heap.size w.heap.size 2 _ (ss k) _ HB.out (by exact HE.out.size) (Lib.byteCells_one _) hlim).mono ?_; rintro e w1 ⟨rfl, i1, b1, -⟩; have c1 : w1.cell? ⟨pb, po + k, none⟩ = some (.string (ss k)) := (b1.cell (p := ⟨pb, po + k, none⟩) hpb).trans c0))
      go_wp2
      rw [← Lib.byteCells_append, ← append_data] at i1
      go_roundw
      case rel => exact ⟨k + 1, by omega, by go_num, rfl, i1, HE.out.drew.trans b1⟩
      case measure => simp [intOf]; omega
    · have e : k = n := by omega
      subst e
      go_wp2
      go_ret2
      exact ⟨rfl, hbuf, hbel⟩
end Go.Proofs.YbulkahwwDoor
