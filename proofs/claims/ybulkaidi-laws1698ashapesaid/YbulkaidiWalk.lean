/-
  (crashAdversary).walk and lossyRounds: their contracts.
-/
import Derived.Test.YbulkaidiRows
import Derived.WalkKit
import Derived.WalkSpells
import Derived.WalkLawsBesides
import Derived.Deep.RegionHeld3
import Derived.Lib.BufferAt
namespace Go.Proofs.Ybulkaidi
open Go.RowKit

/-- A new Crash's cells. -/
def zeroCrash : Array Value := #[.int .i64 0, .int .i64 0, .slice none 0 0]

/-- The made row of f crashes, of no name that the walk could open. -/
def madeRow (f : Nat) : Array Value := madeCells zeroCrash (f * 3)
def madeInts (m : Nat) : Array Value := madeCells #[.int .i64 0] (m * 1)

theorem run_make_crashes (f : Nat) (hf : f ≤ 256) (w : World) : (Instr.makeSlice 29 (.int .i64 (f : Int)) (.int .i64 (f : Int))).run Yba.prog w = .ok (.slice (some ⟨w.heap.size, 0, none⟩) f f) (w.alloc (.cells (madeRow f) 36)) := by
  have h : (Yba.prog.info? 36).map (fun i => (i.size, decide (i.bytes ≤ 64))) = some (3, true) := by kernel_rfl
  have hz : (Yba.prog.info? 36).map (·.zero) = some (some (.agg zeroCrash)) := by kernel_rfl
  cases hq : Yba.prog.info? 36 with
  | none => rw [hq] at h; cases h
  | some i =>
    rw [hq] at h hz
    simp at h hz
    have hb : (i.bytes : Int) * (f : Int) ≤ 281474976710656 := by
      have h1 : (i.bytes : Int) ≤ 64 := by exact_mod_cast h.2
      have h2 : (i.bytes : Int) * (f : Int) ≤ 64 * (f : Int) := Int.mul_le_mul_of_nonneg_right h1 (by omega)
      omega
    have := run_make (P := Yba.prog) w 29 36 i _ Yba.underlying29 hq hz .i64 .i64 (f : Int) (f : Int) (by omega) (by omega) hb (by omega)
    rw [h.1, Int.toNat_natCast] at this
    exact this

theorem run_make_ints (m : Nat) (hm : m ≤ 1024) (w : World) : (Instr.makeSlice 31 (.int .i64 0) (.int .i64 (m : Int))).run Yba.prog w = .ok (.slice (some ⟨w.heap.size, 0, none⟩) 0 m) (w.alloc (.cells (madeInts m) 3)) := by
  have h : (Yba.prog.info? 3).map (fun i => (i.size, decide (i.bytes ≤ 64))) = some (1, true) := by kernel_rfl
  have hz : (Yba.prog.info? 3).map (·.zero) = some (some (.int .i64 0)) := by kernel_rfl
  cases hq : Yba.prog.info? 3 with
  | none => rw [hq] at h; cases h
  | some i =>
    rw [hq] at h hz
    simp at h hz
    have hb : (i.bytes : Int) * (m : Int) ≤ 281474976710656 := by
      have h1 : (i.bytes : Int) ≤ 64 := by exact_mod_cast h.2
      have h2 : (i.bytes : Int) * (m : Int) ≤ 64 * (m : Int) := Int.mul_le_mul_of_nonneg_right h1 (by omega)
      omega
    have := run_make (P := Yba.prog) w 31 3 i _ Yba.underlying31 hq hz .i64 .i64 0 (m : Int) (by omega) (by omega) hb (by omega)
    rw [h.1, Int.toNat_natCast] at this
    exact this

/-- The row of f crashes in block b, of which the first k have been given their slice. -/
def CrashRow (w : World) (b f k m : Nat) : Prop :=
  ∃ cur : Array Value, w.heap[b]? = some (.cells cur 36 (0, 0)) ∧ cur.size = f * 3 ∧
    ∀ i, i < f → cur[i * 3]? = some (.int .i64 0) ∧ cur[i * 3 + 1]? = some (.int .i64 0) ∧ (i < k → ∃ g, cur[i * 3 + 2]? = some (.slice (some g) 0 m))

theorem CrashRow.made (w : World) (b f m : Nat) (h : w.heap[b]? = some (.cells (madeRow f) 36 (0, 0))) : CrashRow w b f 0 m := by
  refine ⟨_, h, by simp [madeRow, size_madeCells], fun i hi => ⟨?_, ?_, fun hk => absurd hk (Nat.not_lt_zero _)⟩⟩
  · have hj : i * 3 < f * 3 := by omega
    have e : i * 3 % 3 = 0 := by omega
    simp [madeRow, madeCells, zeroCrash, hj, e]
  · have hj : i * 3 + 1 < f * 3 := by omega
    have e : (i * 3 + 1) % 3 = 1 := by omega
    simp [madeRow, madeCells, zeroCrash, hj, e]

theorem CrashRow.of_heap {w w' : World} {b f k m : Nat} (h : CrashRow w b f k m) (e : w'.heap[b]? = w.heap[b]?) : CrashRow w' b f k m := by
  obtain ⟨cur, hg, r⟩ := h
  exact ⟨cur, e.trans hg, r⟩

theorem CrashRow.set {w : World} {b f k m : Nat} (h : CrashRow w b f k m) (g : Addr) (hk : k < f) : CrashRow (w.setCell ⟨b, k * 3 + 2, none⟩ (.slice (some g) 0 m)) b f (k + 1) m := by
  obtain ⟨cur, hg, hs, hr⟩ := h
  refine ⟨_, Lib.heap_setCell_same (i := k * 3 + 2) hg _, by simpa using hs, fun i hi => ?_⟩
  obtain ⟨h0, h1, h2⟩ := hr i hi
  refine ⟨by rw [Array.getElem?_setIfInBounds_ne (by omega)]; exact h0, by rw [Array.getElem?_setIfInBounds_ne (by omega)]; exact h1, fun hik => ?_⟩
  by_cases e : i = k
  · subst e
    exact ⟨g, by rw [Array.getElem?_setIfInBounds_self_of_lt (by omega)]⟩
  · obtain ⟨g', hg'⟩ := h2 (by omega)
    exact ⟨g', by rw [Array.getElem?_setIfInBounds_ne (by omega)]; exact hg'⟩

theorem CrashRow.lt {w : World} {b f k m : Nat} (h : CrashRow w b f k m) : b < w.heap.size := by
  obtain ⟨cur, hg, _⟩ := h
  exact Lib.lt_of_heap hg

theorem CrashRow.cell {w : World} {b f k m : Nat} (h : CrashRow w b f k m) (i : Nat) (hi : i < f) : ∃ v, w.cell? ⟨b, i * 3 + 2, none⟩ = some v := by
  obtain ⟨cur, hg, hs, _⟩ := h
  have : i * 3 + 2 < cur.size := by omega
  exact ⟨cur[i * 3 + 2], by rw [Lib.cell_of_heap hg]; simp [this]⟩

theorem CrashRow.free {w : World} {b f k m : Nat} (h : CrashRow w b f k m) (j : Nat) : w.frozen? ⟨b, j, none⟩ = false := by
  obtain ⟨cur, hg, _⟩ := h
  exact Lib.frozen_of_heap hg j

/-- The crashWalk in block b. -/
def walkCells (n : Nat) (lossy : Int) (b f : Nat) (ls : Value) : Array Value := #[.int .i64 n, .int .i64 7, .int .i64 lossy, .slice (some ⟨b, 0, none⟩) f f, ls, .slice none 0 0, .slice none 0 0]

theorem heap_third (w : World) (o1 o2 o3 : Obj) : (((w.alloc o1).alloc o2).alloc o3).heap[w.heap.size + 1 + 1]? = some o3 := by
  show (((w.heap.push o1).push o2).push o3)[w.heap.size + 1 + 1]? = some o3
  have e : ((w.heap.push o1).push o2).size = w.heap.size + 1 + 1 := by simp
  rw [Array.getElem?_push, if_pos e.symm]
theorem heap_second (w : World) (o1 o2 o3 : Obj) : (((w.alloc o1).alloc o2).alloc o3).heap[w.heap.size + 1]? = some o2 := by
  show (((w.heap.push o1).push o2).push o3)[w.heap.size + 1]? = some o2
  have e : (w.heap.push o1).size = w.heap.size + 1 := by simp
  have e2 : ((w.heap.push o1).push o2).size = w.heap.size + 1 + 1 := by simp
  rw [Array.getElem?_push, if_neg (by omega), Array.getElem?_push, if_pos e.symm]

theorem run_make_to (n : Nat) (hn1 : 1 ≤ n) (hn2 : n ≤ 1024) (w : World) : (Instr.makeSlice 31 (.int .i64 0) (.int .i64 ((n : Int) - 1))).run Yba.prog w = .ok (.slice (some ⟨w.heap.size, 0, none⟩) 0 (n - 1)) (w.alloc (.cells (madeInts (n - 1)) 3)) := by
  have := run_make_ints (n - 1) (by omega) w
  have e : ((n - 1 : Nat) : Int) = (n : Int) - 1 := by omega
  rwa [e] at this

/-- What the losses hold: none, or an empty slice that is not nil. -/
def LossOk (lossy : Int) (ls : Value) : Prop := (0 < lossy ∧ ∃ g, ls = .slice (some g) 0 0) ∨ (¬ 0 < lossy ∧ ls = .slice none 0 0)

/-- What 'walk' hands back and leaves. -/
def WalkPost (n f : Nat) (lossy : Int) (w : World) (e : Ending) (w' : World) : Prop := e = .returned (.iface 27 (.pointer (some ⟨w.heap.size + 1 + 1, 0, none⟩))) ∧
  (∃ ls, w'.heap[w.heap.size + 1 + 1]? = some (.cells (walkCells n lossy (w.heap.size + 1) f ls) 33 (0, 0)) ∧ LossOk lossy ls) ∧ CrashRow w' (w.heap.size + 1) f f (n - 1) ∧ Below w.heap.size w w'

set_option maxHeartbeats 800000 in
set_option maxRecDepth 100000 in
theorem walk_any (n f : Nat) (lossy : Int) (w : World) (hn1 : 1 ≤ n) (hn2 : n ≤ 1024) (hf : f ≤ 256) :
    Calls Yba.prog 7 #[.agg #[.int .i64 lossy], .int .i64 (n : Int), .int .i64 (f : Int), .int .i64 7] w fun e w' => WalkPost n f lossy w e w' := by
  have hmk := run_make_crashes f hf
  go_enter Yba.func7, Yba.ntmps7
  go_wp2
  go_region_held3 (fun w' => w'.cell? ⟨w.heap.size, 0, none⟩ = some (.int .i64 lossy)) (go_keep) (fail)
  clear hmk
  go_wp2
  go_loopw [24] (fun i wr => ∃ k : Nat, k ≤ f ∧ i = .int .i64 k ∧ wr.heap[w.heap.size + 1 + 1]? = some (.cells (walkCells n lossy (w.heap.size + 1) f (.slice none 0 0)) 33 (0, 0)) ∧ CrashRow wr (w.heap.size + 1) f k (n - 1) ∧ Below w.heap.size w wr) (fun i _ => f - (intOf i).toNat)
  case atStart =>
    refine ⟨0, Nat.zero_le _, rfl, ?_, CrashRow.made _ _ _ _ ?_, ((((Below.refl _ _).alloc (Nat.le_refl _) _).alloc (by simp) _).alloc (by simp; omega) _).drew⟩
    · exact heap_third w _ _ _
    · exact heap_second w _ _ _
  case round =>
    obtain ⟨k, hk, rfl, hwalk, hrow, hbel⟩ := hrel
    have c2 : wr.cell? ⟨w.heap.size + 1 + 1, 2, none⟩ = some (.int .i64 lossy) := Lib.cell_of_heap hwalk 2
    have c3 : wr.cell? ⟨w.heap.size + 1 + 1, 3, none⟩ = some (.slice (some ⟨w.heap.size + 1, 0, none⟩) f f) := Lib.cell_of_heap hwalk 3
    by_cases hlt : k < f
    · obtain ⟨v, cv⟩ := hrow.cell k hlt
      have fv := hrow.free (k * 3 + 2)
      have hmk := run_make_to n hn1 hn2
      have hwr : IntKind.i64.wrap ((n : Int) - 1) = (n : Int) - 1 := by rw [IntKind.wrap_i64]; omega
      have n1 := World.new_ne wr _ c3
      have n2 := World.new_ne wr _ cv
      have fva : ∀ o : Obj, (wr.alloc o).frozen? ⟨w.heap.size + 1, k * 3 + 2, none⟩ = false := fun o => (hrow.of_heap (Below.heap_alloc wr o _ hrow.lt)).free _
      have cva : ∀ o : Obj, (wr.alloc o).cell? ⟨w.heap.size + 1, k * 3 + 2, none⟩ = some v := fun o => (World.cell?_alloc_past _ _ _ hrow.lt).trans cv
      have HW : Hid (wr.heap[w.heap.size + 1 + 1]? = some (.cells (walkCells n lossy (w.heap.size + 1) f (.slice none 0 0)) 33 (0, 0))) := hwalk
      clear hwalk
      go_wp2_with fail
      go_region_held3 (fun w' => w'.cell? ⟨w.heap.size + 1 + 1, 3, none⟩ = some (.slice (some ⟨w.heap.size + 1, 0, none⟩) f f)) (go_keep) (fail)
      clear hmk hwr fva cva n1 n2 fv
      go_wp2
      go_roundw
      case rel =>
        have hlt1 : w.heap.size + 1 + 1 < wr.heap.size := Lib.lt_of_heap HW.out
        exact ⟨k + 1, by omega, by go_num, (Below.heap_setCell _ _ _ _ (by show w.heap.size + 1 + 1 ≠ w.heap.size + 1; omega)).trans ((Below.heap_alloc _ _ _ hlt1).trans HW.out),
          (hrow.of_heap (Below.heap_alloc wr _ _ hrow.lt)).set _ hlt, ((hbel.alloc hbel.size _).setCell (p := ⟨w.heap.size + 1, k * 3 + 2, none⟩) (by show w.heap.size ≤ w.heap.size + 1; omega) _).drew⟩
      case measure => simp [intOf]; omega
    · have e : k = f := by omega
      subst e
      by_cases hl : 0 < lossy
      · have c4 : wr.cell? ⟨w.heap.size + 1 + 1, 4, none⟩ = some (.slice none 0 0) := Lib.cell_of_heap hwalk 4
        have f4 : wr.frozen? ⟨w.heap.size + 1 + 1, 4, none⟩ = false := Lib.frozen_of_heap hwalk 4
        have hlt1 : w.heap.size + 1 + 1 < wr.heap.size := Lib.lt_of_heap hwalk
        have c4a : ∀ o : Obj, (wr.alloc o).cell? ⟨w.heap.size + 1 + 1, 4, none⟩ = some (.slice none 0 0) := fun o => (World.cell?_alloc_past _ _ _ hlt1).trans c4
        have f4a : ∀ o : Obj, (wr.alloc o).frozen? ⟨w.heap.size + 1 + 1, 4, none⟩ = false := fun o => Lib.frozen_of_heap ((Below.heap_alloc wr o _ hlt1).trans hwalk) 4
        have HW : Hid (wr.heap[w.heap.size + 1 + 1]? = some (.cells (walkCells n lossy (w.heap.size + 1) k (.slice none 0 0)) 33 (0, 0))) := hwalk
        clear hwalk hlt1
        go_wp2
        go_ret
        have hlt1 : w.heap.size + 1 + 1 < wr.heap.size := Lib.lt_of_heap HW.out
        have hset := Lib.heap_setCell_same (i := 4) ((Below.heap_alloc wr (.cells #[] 94) _ hlt1).trans HW.out) (.slice (some ⟨wr.heap.size, 0, none⟩) 0 0)
        exact ⟨rfl, ⟨_, hset, .inl ⟨hl, _, rfl⟩⟩, hrow.of_heap ((Below.heap_setCell _ _ _ _ (by show w.heap.size + 1 ≠ w.heap.size + 1 + 1; omega)).trans (Below.heap_alloc wr _ _ hrow.lt)), (hbel.alloc hbel.size _).setCell (p := ⟨w.heap.size + 1 + 1, 4, none⟩) (by show w.heap.size ≤ w.heap.size + 1 + 1; omega) _⟩
      · have hl' : lossy ≤ 0 := by omega
        go_wp2
        go_ret
        exact ⟨rfl, ⟨_, hwalk, .inr ⟨by omega, rfl⟩⟩, hrow, hbel⟩

set_option maxHeartbeats 400000 in
theorem lossy_any (lossy : Int) (w : World) : Calls Yba.prog 8 #[.agg #[.int .i64 lossy]] w fun e w' => e = .returned (.int .i64 lossy) ∧ w' = w.alloc (.cells #[.int .i64 lossy] 23) := by
  go_enter Yba.func8, Yba.ntmps8
  go_wp2
  go_ret
  exact ⟨rfl, rfl⟩
end Go.Proofs.Ybulkaidi
