/-
  'cp := make([]Option, len(opts)+1); copy(cp, opts)': the run of the two operations, and the row that they leave.
-/
import Derived.Test.YbulkahymFirst
import Derived.Laws.CopyOwn
import Derived.Lib.Builder
namespace Go.Proofs.Ybulkahym
open Go.RowKit

/-- copy(dst, src), dst at the head of a row of the call's own, the elements of 'size' cells. -/
theorem run_copy_wide {P : Program} (w : World) (dT sT ty elem : TypeId) (g dLen dCap : Nat) (a : Addr) (sLen sCap size : Nat) (cur : Array Value) (t : TypeId) (cs : List Value)
    (hu : P.underlying dT = some (.slice elem)) (hs : (P.info? elem).map (·.size) = some size)
    (hg : w.heap[g]? = some (.cells cur t (0, 0))) (hn : cs.length = Nat.min sLen dLen * size)
    (hsrc : ∀ j v, cs[j]? = some v → w.cell? (a.add j) = some v) (hfit : cs.length ≤ cur.size) (h1 : ∀ v ∈ cs, v.oneCell' = true) :
    (Builtin.copy_ #[dT, sT] ty #[.slice (some ⟨g, 0, none⟩) dLen dCap, .slice (some a) sLen sCap]).run P w =
      .ok (goInt (Nat.min sLen dLen)) (w.setRow g (cs ++ cur.toList.drop cs.length).toArray) := by
  have hl := run_loadCells_list (P := P) w a cs hsrc
  have hst := run_storeCells_at P g 0 t cs 0 cur w hg (by simpa using hfit) h1
  cases hq : P.info? elem with
  | none => simp [hq] at hs
  | some i =>
    have hi : i.size = size := by simpa [hq] using hs
    simp [Builtin.copy_, run_underlying hu, Builtin.lenOf, Builtin.firstCells, sizeOf, typeInfo, hq, hi, ← hn, hl, hst]

/-- copy(dst, src), src nil. -/
theorem run_copy_nil_wide {P : Program} (w : World) (dT sT ty elem : TypeId) (g dLen dCap sCap size : Nat)
    (hu : P.underlying dT = some (.slice elem)) (hs : (P.info? elem).map (·.size) = some size) :
    (Builtin.copy_ #[dT, sT] ty #[.slice (some ⟨g, 0, none⟩) dLen dCap, .slice none 0 sCap]).run P w = .ok (goInt 0) w := by
  cases hq : P.info? elem with
  | none => simp [hq] at hs
  | some i => simp [Builtin.copy_, run_underlying hu, Builtin.lenOf, Builtin.firstCells, sizeOf, typeInfo, hq, storeCells]

/-- The r-th cell of the i-th option. -/
def optCell (sh : Nat → Int) (lg : Nat → ByteArray) (tv en : Nat → Bool) (i r : Nat) : Value :=
  if r = 0 then .int .u8 (sh i) else if r = 1 then .string (lg i) else if r = 2 then .bool (tv i) else .bool (en i)

theorem optCell_one (sh : Nat → Int) (lg : Nat → ByteArray) (tv en : Nat → Bool) (i r : Nat) : (optCell sh lg tv en i r).oneCell' = true := by
  unfold optCell; split
  · rfl
  · split
    · rfl
    · split <;> rfl

def zeroOpt : Array Value := #[.int .u8 0, .string ⟨#[]⟩, .bool false, .bool false]

theorem zeroOpt_at (i r : Nat) (hr : r < 4) : zeroOpt[(i * 4 + r) % zeroOpt.size]! = optCell (fun _ => 0) (fun _ => ⟨#[]⟩) (fun _ => false) (fun _ => false) 0 r := by
  have e : (i * 4 + r) % zeroOpt.size = r := by show (i * 4 + r) % 4 = r; omega
  rw [e]
  match r, hr with
  | 0, _ => rfl
  | 1, _ => rfl
  | 2, _ => rfl
  | 3, _ => rfl

/-- The cells of n options, one behind the other. -/
def optCells (sh : Nat → Int) (lg : Nat → ByteArray) (tv en : Nat → Bool) (n : Nat) : List Value := (List.range (n * 4)).map fun j => optCell sh lg tv en (j / 4) (j % 4)

theorem optCells_length (sh : Nat → Int) (lg : Nat → ByteArray) (tv en : Nat → Bool) (n : Nat) : (optCells sh lg tv en n).length = n * 4 := by simp [optCells]

theorem OptRow.at {w : World} {b off n : Nat} {sh : Nat → Int} {lg : Nat → ByteArray} {tv en : Nat → Bool} (h : OptRow w b off n sh lg tv en) (i r : Nat) (hi : i < n) (hr : r < 4) : w.cell? ⟨b, off + (i * 4 + r), none⟩ = some (optCell sh lg tv en i r) := by
  obtain ⟨c0, c1, c2, c3⟩ := h i hi
  match r, hr with
  | 0, _ => exact c0
  | 1, _ => exact c1
  | 2, _ => exact c2
  | 3, _ => exact c3

theorem OptRow.mk {w : World} {b off n : Nat} {sh : Nat → Int} {lg : Nat → ByteArray} {tv en : Nat → Bool} (h : ∀ i r, i < n → r < 4 → w.cell? ⟨b, off + (i * 4 + r), none⟩ = some (optCell sh lg tv en i r)) : OptRow w b off n sh lg tv en := fun i hi =>
  ⟨h i 0 hi (by omega), h i 1 hi (by omega), h i 2 hi (by omega), h i 3 hi (by omega)⟩

theorem OptRow.src {w : World} {b off n : Nat} {sh : Nat → Int} {lg : Nat → ByteArray} {tv en : Nat → Bool} (h : OptRow w b off n sh lg tv en) : ∀ j v, (optCells sh lg tv en n)[j]? = some v → w.cell? ((⟨b, off, none⟩ : Addr).add j) = some v := by
  intro j v hv
  have hj : j < n * 4 := by rw [← optCells_length sh lg tv en n]; exact (List.getElem?_eq_some_iff.1 hv).1
  have e : j / 4 * 4 + j % 4 = j := by omega
  have hc := h.at (j / 4) (j % 4) (by omega) (by omega)
  rw [e] at hc
  rw [Go.WideShapes.add_plain, hc, ← hv]
  simp [optCells, hj]

/-- f, and behind n of them x. -/
def snocAt {α : Type} (f : Nat → α) (n : Nat) (x : α) : Nat → α := fun i => if i < n then f i else x
theorem snocAt_lt {α : Type} (f : Nat → α) {n i : Nat} (x : α) (h : i < n) : snocAt f n x i = f i := if_pos h
theorem snocAt_eq {α : Type} (f : Nat → α) (n : Nat) (x : α) : snocAt f n x n = x := if_neg (Nat.lt_irrefl _)

theorem optCell_snoc_lt (sh : Nat → Int) (lg : Nat → ByteArray) (tv en : Nat → Bool) (x : ByteArray) {n i : Nat} (r : Nat) (h : i < n) : optCell (snocAt sh n 0) (snocAt lg n x) (snocAt tv n false) (snocAt en n false) i r = optCell sh lg tv en i r := by
  simp only [optCell, snocAt_lt _ _ h]
theorem optCell_snoc_eq (sh : Nat → Int) (lg : Nat → ByteArray) (tv en : Nat → Bool) (x : ByteArray) (n r : Nat) : optCell (snocAt sh n 0) (snocAt lg n x) (snocAt tv n false) (snocAt en n false) n r = optCell (fun _ => 0) (fun _ => x) (fun _ => false) (fun _ => false) 0 r := by
  simp only [optCell, snocAt_eq]

/-- The made row of n + 1 zero options, of which the first n have been written over. -/
theorem row_of_heap {w2 : World} {g n : Nat} {sh : Nat → Int} {lg : Nat → ByteArray} {tv en : Nat → Bool}
    (hg : w2.heap[g]? = some (.cells (optCells sh lg tv en n ++ (madeCells zeroOpt ((n + 1) * 4)).toList.drop (optCells sh lg tv en n).length).toArray 33 (0, 0))) :
    OptRow w2 g 0 (n + 1) (snocAt sh n 0) (snocAt lg n ⟨#[]⟩) (snocAt tv n false) (snocAt en n false) := OptRow.mk fun i r hi hr => by
  rw [Lib.cell_of_heap hg, Nat.zero_add, List.getElem?_toArray]
  have hl := optCells_length sh lg tv en n
  by_cases hin : i < n
  · rw [List.getElem?_append_left (by rw [hl]; omega), optCell_snoc_lt _ _ _ _ _ _ hin]
    have e1 : (i * 4 + r) / 4 = i := by omega
    have e2 : (i * 4 + r) % 4 = r := by omega
    have hj : i * 4 + r < n * 4 := by omega
    simp [optCells, hj, e1, e2]
  · obtain rfl : i = n := by omega
    rw [List.getElem?_append_right (by rw [hl]; omega), List.getElem?_drop, hl, optCell_snoc_eq]
    have e1 : i * 4 + (i * 4 + r - i * 4) = i * 4 + r := by omega
    have hj : i * 4 + r < (i + 1) * 4 := by omega
    rw [e1, ← zeroOpt_at i r hr]
    simp [madeCells, hj]

theorem info33 : (Yba.prog.info? 33).map (·.size) = some 4 := by kernel_rfl

/-- 'copy(cp, opts)' behind the make. -/
theorem copy_opts (w : World) (a : Option Addr) (n cap : Nat) (sh : Nat → Int) (lg : Nat → ByteArray) (tv en : Nat → Bool) (h : IsOpts w a n sh lg tv en) :
    ∃ w2, (∀ ty, (Builtin.copy_ #[31, 31] ty #[.slice (some ⟨w.heap.size, 0, none⟩) (n + 1) (n + 1), .slice a n cap]).run Yba.prog (w.alloc (.cells (madeCells zeroOpt ((n + 1) * 4)) 33)) = .ok (goInt n) w2) ∧
      OptRow w2 w.heap.size 0 (n + 1) (snocAt sh n 0) (snocAt lg n ⟨#[]⟩) (snocAt tv n false) (snocAt en n false) ∧ (∀ j, w2.frozen? ⟨w.heap.size, j, none⟩ = false) ∧ Below w.heap.size w w2 ∧ w2.heap.size = w.heap.size + 1 := by
  have hg : (w.alloc (.cells (madeCells zeroOpt ((n + 1) * 4)) 33)).heap[w.heap.size]? = some (.cells (madeCells zeroOpt ((n + 1) * 4)) 33 (0, 0)) := by
    show (w.heap.push _)[w.heap.size]? = _
    simp
  have hbel : Below w.heap.size w (w.alloc (.cells (madeCells zeroOpt ((n + 1) * 4)) 33)) := (Below.refl _ _).alloc (Nat.le_refl _) _
  -- whatever is copied: the run, and the row
  have run : ∀ ad : Addr, (∀ j v, (optCells sh lg tv en n)[j]? = some v → (w.alloc (.cells (madeCells zeroOpt ((n + 1) * 4)) 33)).cell? (ad.add j) = some v) →
      ∃ w2, (∀ ty, (Builtin.copy_ #[31, 31] ty #[.slice (some ⟨w.heap.size, 0, none⟩) (n + 1) (n + 1), .slice (some ad) n cap]).run Yba.prog (w.alloc (.cells (madeCells zeroOpt ((n + 1) * 4)) 33)) = .ok (goInt n) w2) ∧
        OptRow w2 w.heap.size 0 (n + 1) (snocAt sh n 0) (snocAt lg n ⟨#[]⟩) (snocAt tv n false) (snocAt en n false) ∧ (∀ j, w2.frozen? ⟨w.heap.size, j, none⟩ = false) ∧ Below w.heap.size w w2 ∧ w2.heap.size = w.heap.size + 1 := by
    intro ad hsrc
    have hl := optCells_length sh lg tv en n
    have hmin : Nat.min n (n + 1) = n := Nat.min_eq_left (by omega)
    refine ⟨_, fun ty => ?_, row_of_heap (setRow_heap _ _ _ _ _ _ hg), Lib.frozen_of_heap (setRow_heap _ _ _ _ _ _ hg), below_setRow hbel (Nat.le_refl _) _, by simp [World.setRow]⟩
    have h2 := run_copy_wide (P := Yba.prog) (w.alloc (.cells (madeCells zeroOpt ((n + 1) * 4)) 33)) 31 31 ty 33 w.heap.size (n + 1) (n + 1) ad n cap 4 _ 33 (optCells sh lg tv en n) Yba.underlying31 info33 hg (by rw [hmin, hl]) hsrc (by rw [hl, size_madeCells]; omega) (fun v hv => by
      obtain ⟨j, -, rfl⟩ := List.mem_map.1 hv
      exact optCell_one _ _ _ _ _ _)
    rw [hmin] at h2
    exact h2
  rcases h with rfl | ⟨b, off, rfl, hb, hrow⟩
  · cases a with
    | some ad => exact run ad (fun j v hv => by simp [optCells] at hv)
    | none => exact ⟨_, fun ty => run_copy_nil_wide _ 31 31 ty 33 _ _ _ _ 4 Yba.underlying31 info33, row_of_heap (sh := sh) (lg := lg) (tv := tv) (en := en) (n := 0) (by simpa [optCells] using hg), Lib.frozen_of_heap hg, hbel, by simp⟩
  · exact run ⟨b, off, none⟩ (hrow.below hb hbel).src
end Go.Proofs.Ybulkahym
