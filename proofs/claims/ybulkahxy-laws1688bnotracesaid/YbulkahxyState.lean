/-
  A map builder inside a container that the call has made: what is known of the memory.
-/
import Derived.Test.YbulkahxyNext
import Derived.Lib.BufferAt
import Derived.Deep.AppendLies
import Derived.Lib.AppendZeros
namespace Go.Proofs.Ybulkahxy
open Go.RowKit

/-- The container's block. -/
def CBlk (w : World) (C : Nat) (cs : Array Value) : Prop := w.heap[C]? = some (.cells cs 47 (0, 0)) ∧ cs.size = 55

theorem CBlk.lt {w : World} {C : Nat} {cs : Array Value} (h : CBlk w C cs) : C < w.heap.size := Lib.lt_of_heap h.1
theorem CBlk.cell {w : World} {C : Nat} {cs : Array Value} (h : CBlk w C cs) (i : Nat) : w.cell? ⟨C, i, none⟩ = cs[i]? := Lib.cell_of_heap h.1 i
theorem CBlk.free {w : World} {C : Nat} {cs : Array Value} (h : CBlk w C cs) (i : Nat) : w.frozen? ⟨C, i, none⟩ = false := Lib.frozen_of_heap h.1 i
theorem CBlk.set {w : World} {C : Nat} {cs : Array Value} (h : CBlk w C cs) (i : Nat) (v : Value) : CBlk (w.setCell ⟨C, i, none⟩ v) C (cs.setIfInBounds i v) :=
  ⟨Lib.heap_setCell_same (i := i) h.1 v, by rw [Array.size_setIfInBounds]; exact h.2⟩
theorem CBlk.there {w : World} {C : Nat} {cs : Array Value} (h : CBlk w C cs) (i : Nat) (hi : i < 55) : ∃ v, cs[i]? = some v := by
  have : i < cs.size := by rw [h.2]; exact hi
  exact ⟨cs[i], by simp [this]⟩
theorem get_set_same {cs : Array Value} (hs : cs.size = 55) (i : Nat) (hi : i < 55) (v : Value) : (cs.setIfInBounds i v)[i]? = some v := by
  rw [Array.getElem?_setIfInBounds_self_of_lt (by omega)]
theorem get_set_other (cs : Array Value) (i j : Nat) (h : i ≠ j) (v : Value) : (cs.setIfInBounds i v)[j]? = cs[j]? := Array.getElem?_setIfInBounds_ne h

/-- A block of records: a slice from the head of a row of bytes. -/
def IsBlk (w : World) (B : Nat) (v : Value) : Prop :=
  ∃ g l cap cur, v = .slice (some ⟨g, 0, none⟩) l cap ∧ l ≤ cap ∧ cap ≤ 262144 ∧ w.heap[g]? = some (.cells cur 5 (0, 0)) ∧ cur.size = cap ∧ B ≤ g

/-- What a step may turn: the container's block, rows of bytes, rows of slices of bytes; and nothing below B. -/
structure Kept (B C : Nat) (w w' : World) : Prop where
  below : Below B w w'
  block : ∀ k : Nat, k < w.heap.size → k ≠ C → (∀ c, w.heap[k]? ≠ some (.cells c 5 (0, 0))) → (∀ c, w.heap[k]? ≠ some (.cells c 49 (0, 0))) → w'.heap[k]? = w.heap[k]?
  row5 : ∀ (k : Nat) (c : Array Value), w.heap[k]? = some (.cells c 5 (0, 0)) → ∃ c' : Array Value, w'.heap[k]? = some (.cells c' 5 (0, 0)) ∧ c'.size = c.size

theorem Kept.refl (B C : Nat) (w : World) : Kept B C w w := ⟨Below.refl _ _, fun _ _ _ _ _ => rfl, fun _ c h => ⟨c, h, rfl⟩⟩
theorem Kept.drew {B C : Nat} {w w' : World} (h : Kept B C w w') : Kept B C w w'.drew := ⟨h.below.drew, h.block, h.row5⟩
theorem Kept.drewN {B C : Nat} {w w' : World} (h : Kept B C w w') (n : Nat) : Kept B C w (w'.drewN n) := ⟨below_drewN h.below n, h.block, h.row5⟩
theorem Kept.alloc {B C : Nat} {w w' : World} (h : Kept B C w w') (hB : B ≤ w.heap.size) (o : Obj) : Kept B C w (w'.alloc o) :=
  ⟨h.below.alloc (Nat.le_trans hB h.below.size) o, fun k hk h1 h2 h3 => (Below.heap_alloc w' o k (Nat.lt_of_lt_of_le hk h.below.size)).trans (h.block k hk h1 h2 h3),
   fun k c hc => by
    obtain ⟨c', h1, h2⟩ := h.row5 k c hc
    exact ⟨c', (Below.heap_alloc w' o k (Lib.lt_of_heap h1)).trans h1, h2⟩⟩
theorem Kept.set {B C : Nat} {w w' : World} {cs : Array Value} (h : Kept B C w w') (hC : CBlk w' C cs) (hB : B ≤ C) (i : Nat) (v : Value) : Kept B C w (w'.setCell ⟨C, i, none⟩ v) :=
  ⟨h.below.setCell (p := ⟨C, i, none⟩) hB v, fun k hk h1 h2 h3 => (Below.heap_setCell w' ⟨C, i, none⟩ v k h1).trans (h.block k hk h1 h2 h3),
   fun k c hc => by
    obtain ⟨c', h1, h2⟩ := h.row5 k c hc
    have hne : k ≠ C := by
      intro e
      rw [e, hC.1] at h1
      injection h1 with h1
      injection h1 with _ h1 _
      exact absurd h1 (by decide)
    exact ⟨c', (Below.heap_setCell w' ⟨C, i, none⟩ v k hne).trans h1, h2⟩⟩

/-- A row of bytes is written (its size stays), or made anew. -/
theorem Kept.grown5 {B C g : Nat} {w w' w2 : World} {c c2 : Array Value} (h : Kept B C w w') (hB : B ≤ w.heap.size) (hg : w'.grownBy w2 (some g)) (hBg : B ≤ g) (hc : w'.heap[g]? = some (.cells c 5 (0, 0))) (hc2 : w2.heap[g]? = some (.cells c2 5 (0, 0))) (hs : c2.size = c.size) : Kept B C w w2 := by
  have hsz := h.below.size
  refine ⟨h.below.grown hg (Nat.le_trans hB hsz) (fun k hk => by cases hk; exact hBg), fun k hk h1 h2 h3 => ?_, fun k cc hcc => ?_⟩
  · have e := h.block k hk h1 h2 h3
    have hne : k ≠ g := by
      intro e2
      subst e2
      exact h2 c (by rw [← e]; exact hc)
    exact (hg.block k (Nat.lt_of_lt_of_le hk hsz) (by simpa using hne)).trans e
  · obtain ⟨c', h1, h2⟩ := h.row5 k cc hcc
    by_cases e : k = g
    · subst e
      rw [hc] at h1
      injection h1 with h1
      injection h1 with h1 _ _
      subst h1
      exact ⟨c2, hc2, hs.trans h2⟩
    · exact ⟨c', (hg.block k (Lib.lt_of_heap h1) (by simpa using e)).trans h1, h2⟩

/-- A row of slices is written, or made anew (nothing of the old one need be known). -/
theorem Kept.grown49 {B C : Nat} {w w' w2 : World} {row : Option Nat} (h : Kept B C w w') (hB : B ≤ w.heap.size) (hg : w'.grownBy w2 row) (hrow : ∀ g, row = some g → B ≤ g ∧ ∃ c, w'.heap[g]? = some (.cells c 49 (0, 0))) : Kept B C w w2 := by
  have hsz := h.below.size
  refine ⟨h.below.grown hg (Nat.le_trans hB hsz) (fun k hk => (hrow k hk).1), fun k hk h1 h2 h3 => ?_, fun k cc hcc => ?_⟩
  · have e := h.block k hk h1 h2 h3
    refine (hg.block k (Nat.lt_of_lt_of_le hk hsz) (fun e2 => ?_)).trans e
    obtain ⟨_, c, hc⟩ := hrow k e2.symm
    exact h3 c (by rw [← e]; exact hc)
  · obtain ⟨c', h1, h2⟩ := h.row5 k cc hcc
    refine ⟨c', (hg.block k (Lib.lt_of_heap h1) (fun e2 => ?_)).trans h1, h2⟩
    obtain ⟨_, c, hc⟩ := hrow k e2.symm
    rw [hc] at h1
    injection h1 with h1
    injection h1 with _ h1 _
    exact absurd h1 (by decide)

theorem IsBlk.kept {B C : Nat} {w w' : World} {v : Value} (h : IsBlk w B v) (hk : Kept B C w w') : IsBlk w' B v := by
  obtain ⟨g, l, cap, cur, rfl, h1, h2, h3, h4, h5⟩ := h
  obtain ⟨c', h6, h7⟩ := hk.row5 g cur h3
  exact ⟨g, l, cap, c', rfl, h1, h2, h6, h7.trans h4, h5⟩

/-- The map builder: blocks, filling, held. -/
structure MB (w : World) (B C : Nat) (cs : Array Value) (vb : Value) (row : List Value) (fill held N : Nat) : Prop where
  blk : CBlk w C cs
  base : B ≤ C
  c5 : cs[5]? = some vb
  c6 : cs[6]? = some (.int .i64 fill)
  c7 : cs[7]? = some (.int .i64 held)
  own : w.ownsRow B 49 1 vb row.length row
  each : ∀ v ∈ row, IsBlk w B v
  fill_le : fill ≤ row.length
  len_le : row.length ≤ N

/-- What the blocks' slice looks like. -/
theorem MB.form {w : World} {B C : Nat} {cs : Array Value} {vb : Value} {row : List Value} {fill held N : Nat} (h : MB w B C cs vb row fill held N) : ∃ va vc, vb = .slice va row.length vc := by
  rcases h.own.2 with ⟨rfl, h0⟩ | ⟨g, cap, cur, rfl, _⟩
  · exact ⟨none, 0, by rw [h0]⟩
  · exact ⟨_, _, rfl⟩

theorem MB.formR {w : World} {B C : Nat} {cs : Array Value} {vb : Value} {row : List Value} {fill held N : Nat} (h : MB w B C cs vb row fill held N) (hpos : 0 < row.length) : ∃ R vc cur, vb = .slice (some ⟨R, 0, none⟩) row.length vc ∧ B ≤ R ∧ w.heap[R]? = some (.cells cur 49 (0, 0)) ∧ row.length ≤ vc ∧ vc ≤ maxLen ∧ cur.size = vc ∧ cur.toList.take row.length = row := by
  rcases h.own.2 with ⟨rfl, h0⟩ | ⟨g, cap, cur, rfl, hB, hg, h1, h2, h3, h4⟩
  · omega
  · exact ⟨g, cap, cur, rfl, hB, hg, h1, h2, by simpa using h3, by simpa using h4⟩

theorem row_cell {w : World} {R : Nat} {cur : Array Value} {row : List Value} (hg : w.heap[R]? = some (.cells cur 49 (0, 0))) (htk : cur.toList.take row.length = row) (i : Nat) (hi : i < row.length) : w.cell? ⟨R, i, none⟩ = some (row[i]) := by
  rw [Lib.cell_of_heap hg]
  have h1 : row[i]? = some (row[i]) := List.getElem?_eq_getElem hi
  have h2 : (cur.toList.take row.length)[i]? = cur.toList[i]? := by rw [List.getElem?_take, if_pos hi]
  rw [← Array.getElem?_toList, ← h2, htk, h1]

/-- The same, all else turned but what 'Kept' keeps: the container's and the slices' row being known. -/
theorem MB.kept {w w' : World} {B C : Nat} {cs cs' : Array Value} {vb : Value} {row : List Value} {fill fill' held held' N N' : Nat} (h : MB w B C cs vb row fill held N) (hk : Kept B C w w') (hC : CBlk w' C cs') (h5 : cs'[5]? = some vb) (h6 : cs'[6]? = some (.int .i64 fill')) (h7 : cs'[7]? = some (.int .i64 held'))
    (hown : w'.ownsRow B 49 1 vb row.length row) (hf : fill' ≤ row.length) (hl : row.length ≤ N') : MB w' B C cs' vb row fill' held' N' :=
  ⟨hC, h.base, h5, h6, h7, hown, fun v hv => (h.each v hv).kept hk, hf, hl⟩

/-- The slices' row lies in another block than the container. -/
theorem MB.row_ne {w : World} {B C : Nat} {cs : Array Value} {vb : Value} {row : List Value} {fill held N : Nat} (h : MB w B C cs vb row fill held N) : vb.ownBlock ≠ some C := by
  intro e
  rcases h.own.2 with ⟨rfl, _⟩ | ⟨g, cap, cur, rfl, _, hg, _⟩
  · simp [Value.ownBlock] at e
  · simp only [Value.ownBlock, Option.some.injEq] at e
    subst e
    rw [h.blk.1] at hg
    injection hg with hg
    injection hg with _ hg _
    exact absurd hg (by decide)

theorem MB.own_set {w : World} {B C : Nat} {cs : Array Value} {vb : Value} {row : List Value} {fill held N : Nat} (h : MB w B C cs vb row fill held N) (i : Nat) (v : Value) : (w.setCell ⟨C, i, none⟩ v).ownsRow B 49 1 vb row.length row :=
  h.own.kept (Lib.grownBy_setCell w C i v) (.inr h.row_ne)
end Go.Proofs.Ybulkahxy
