/-
  (*mapBuilder).begin: what the record's bytes and the two stores behind them leave. No walk.
-/
import Derived.Test.YbulkahxyState
namespace Go.Proofs.Ybulkahxy
open Go.RowKit

/-- The key's bytes, in the block that the conversion has made. -/
def SrcBlk (w : World) (gs : Nat) (kb : List UInt8) : Prop := ∃ bc m, w.heap[gs]? = some (.cells bc 5 (m, m + 1)) ∧ ∀ (j : Nat) (u : Value), (Lib.byteCells kb)[j]? = some u → bc[j]? = some u

theorem SrcBlk.keptIn {w w' : World} {gs B C : Nat} {kb : List UInt8} (h : SrcBlk w gs kb) {cs : Array Value} (hC : CBlk w C cs) (hk : Kept B C w w') : SrcBlk w' gs kb := by
  obtain ⟨bc, m, hg, hc⟩ := h
  have hne : gs ≠ C := by
    intro e
    rw [e, hC.1] at hg
    injection hg with hg
    injection hg with _ hg _
    exact absurd hg (by decide)
  refine ⟨bc, m, (hk.block gs (Lib.lt_of_heap hg) hne (fun c e => ?_) (fun c e => ?_)).trans hg, hc⟩
  · rw [hg] at e
    injection e with e
    injection e with _ _ e
    injection e with _ e
    omega
  · rw [hg] at e
    injection e with e
    injection e with _ e _
    exact absurd e (by decide)

theorem SrcBlk.cells {w : World} {gs : Nat} {kb : List UInt8} (h : SrcBlk w gs kb) : ∀ j u, (Lib.byteCells kb)[j]? = some u → w.cell? ((⟨gs, 0, none⟩ : Addr).add j) = some u := by
  obtain ⟨bc, m, hg, hc⟩ := h
  intro j u hj
  rw [Addr.add_lit, Nat.zero_add, Lib.cell_of_heap hg]
  exact hc j u hj

/-- The last record: in block f, from offset off on: 32 bytes for the node, the head, the key. -/
def Rec (w : World) (row : List Value) (f off : Nat) (kb : List UInt8) : Prop :=
  ∃ g cap cur, row[f]? = some (.slice (some ⟨g, 0, none⟩) (off + 32 + (Lib.uvarint (kb.length * 2 + 1)).length + kb.length) cap) ∧ w.heap[g]? = some (.cells cur 5 (0, 0)) ∧ off + 32 + (Lib.uvarint (kb.length * 2 + 1)).length + kb.length ≤ cap ∧ cap ≤ 262144 ∧
    ∀ (j : Nat) (u : Value), (Lib.byteCells (Lib.uvarint (kb.length * 2 + 1) ++ kb))[j]? = some u → cur[off + 32 + j]? = some u

theorem Rec.set {w : World} {row : List Value} {f off C : Nat} {kb : List UInt8} {cs : Array Value} (h : Rec w row f off kb) (hC : CBlk w C cs) (i : Nat) (v : Value) : Rec (w.setCell ⟨C, i, none⟩ v) row f off kb := by
  obtain ⟨g, cap, cur, h1, h2, r⟩ := h
  have hne : g ≠ C := by
    intro e
    rw [e, hC.1] at h2
    injection h2 with h2
    injection h2 with _ h2 _
    exact absurd h2 (by decide)
  exact ⟨g, cap, cur, h1, (Below.heap_setCell w ⟨C, i, none⟩ v g hne).trans h2, r⟩

/-- Of two blocks with different marks the one is not the other. -/
theorem blocks_ne {w : World} {a b : Nat} {ca cb : Array Value} {ta tb : TypeId} {fa fb : Nat × Nat} (ha : w.heap[a]? = some (.cells ca ta fa)) (hb : w.heap[b]? = some (.cells cb tb fb)) (h : ta ≠ tb) : a ≠ b := by
  intro e
  rw [e, hb] at ha
  injection ha with ha
  injection ha with _ ha _
  exact h ha.symm

/-- What is known when the block is found. -/
structure Found (W : World) (B C : Nat) (cs1 : Array Value) (vb : Value) (row : List Value) (f held N R vc g l cap : Nat) (cur bcur : Array Value) : Prop where
  mb : MB W B C cs1 vb row f held N
  hvb : vb = .slice (some ⟨R, 0, none⟩) row.length vc
  hBR : B ≤ R
  hR : W.heap[R]? = some (.cells cur 49 (0, 0))
  hvc1 : row.length ≤ vc
  hvc2 : vc ≤ maxLen
  hcur : cur.size = vc
  htk : cur.toList.take row.length = row
  hlt : f < row.length
  hv : row[f]? = some (.slice (some ⟨g, 0, none⟩) l cap)
  hcap : cap ≤ 262144
  hlc : l ≤ cap
  hg : W.heap[g]? = some (.cells bcur 5 (0, 0))
  hgs : bcur.size = cap
  hBg : B ≤ g

section
variable {W : World} {B C : Nat} {cs1 : Array Value} {vb : Value} {row : List Value} {f held N R vc g l cap : Nat} {cur bcur : Array Value}

theorem Found.of (hmb : MB W B C cs1 vb row f held N) (hlt : f < row.length) : ∃ R vc g l cap cur bcur, Found W B C cs1 vb row f held N R vc g l cap cur bcur := by
  obtain ⟨R, vc, cur, hvb, hBR, hR, hvc1, hvc2, hcur, htk⟩ := hmb.formR (by omega)
  obtain ⟨g, l, cap, bcur, hv, hlc, hcap, hg, hgs, hBg⟩ := hmb.each (row[f]) (List.getElem_mem hlt)
  exact ⟨R, vc, g, l, cap, cur, bcur, hmb, hvb, hBR, hR, hvc1, hvc2, hcur, htk, hlt, by rw [List.getElem?_eq_getElem hlt, hv], hcap, hlc, hg, hgs, hBg⟩

theorem Found.rcell (h : Found W B C cs1 vb row f held N R vc g l cap cur bcur) : W.cell? ⟨R, f, none⟩ = some (.slice (some ⟨g, 0, none⟩) l cap) := by
  rw [row_cell h.hR h.htk f h.hlt]
  have := h.hv
  rwa [List.getElem?_eq_getElem h.hlt] at this

theorem Found.RC (h : Found W B C cs1 vb row f held N R vc g l cap cur bcur) : R ≠ C := blocks_ne h.hR h.mb.blk.1 (by decide)
theorem Found.gC (h : Found W B C cs1 vb row f held N R vc g l cap cur bcur) : g ≠ C := blocks_ne h.hg h.mb.blk.1 (by decide)
theorem Found.Rg (h : Found W B C cs1 vb row f held N R vc g l cap cur bcur) : R ≠ g := blocks_ne h.hR h.hg (by decide)

/-- The record's place is noted: cells 8 and 9. -/
theorem Found.noted (h : Found W B C cs1 vb row f held N R vc g l cap cur bcur) (a b : Value) :
    CBlk ((W.setCell ⟨C, 8, none⟩ a).setCell ⟨C, 9, none⟩ b) C ((cs1.setIfInBounds 8 a).setIfInBounds 9 b) ∧ Kept B C W ((W.setCell ⟨C, 8, none⟩ a).setCell ⟨C, 9, none⟩ b) ∧
      ((W.setCell ⟨C, 8, none⟩ a).setCell ⟨C, 9, none⟩ b).heap[g]? = some (.cells bcur 5 (0, 0)) ∧ ((W.setCell ⟨C, 8, none⟩ a).setCell ⟨C, 9, none⟩ b).heap[R]? = some (.cells cur 49 (0, 0)) := by
  have h8 := h.mb.blk.set 8 a
  refine ⟨h8.set 9 b, ((Kept.refl B C W).set h.mb.blk h.mb.base 8 a).set h8 h.mb.base 9 b, ?_, ?_⟩
  · exact (Below.heap_setCell _ _ _ _ h.gC).trans ((Below.heap_setCell _ _ _ _ h.gC).trans h.hg)
  · exact (Below.heap_setCell _ _ _ _ h.RC).trans ((Below.heap_setCell _ _ _ _ h.RC).trans h.hR)

theorem own_of_block {W1 : World} (hg : W1.heap[g]? = some (.cells bcur 5 (0, 0))) (hgs : bcur.size = cap) (hBg : B ≤ g) (hcap : cap ≤ 262144) (n : Nat) (hn : n ≤ cap) : W1.ownsRow B 5 1 (.slice (some ⟨g, 0, none⟩) n cap) n (bcur.toList.take n) :=
  ⟨by rw [List.length_take, Array.length_toList, Nat.mul_one]; omega, .inr ⟨g, cap, bcur, rfl, hBg, hg, hn, by unfold maxLen; omega, by rw [Nat.mul_one]; exact hgs, by rw [Nat.mul_one]⟩⟩

theorem block_of_own {W1 : World} {n : Nat} {xs : List Value} (h : W1.ownsRow B 5 1 (.slice (some ⟨g, 0, none⟩) n cap) n xs) : ∃ c, W1.heap[g]? = some (.cells c 5 (0, 0)) ∧ c.size = cap ∧ c.toList.take n = xs := by
  rcases h.2 with ⟨e, _⟩ | ⟨g', cap', c, e, _, hg, _, _, hs, htk⟩
  · cases e
  · injection e with e1 e2 e3
    injection e1 with e1
    injection e1 with e1
    subst e1 e3
    exact ⟨c, hg, by simpa using hs, by simpa using htk⟩

/-- A row of bytes is written: what stays. -/
theorem Found.wrote (h : Found W B C cs1 vb row f held N R vc g l cap cur bcur) (hB : B ≤ W.heap.size) {W1 W2 : World} {cs2 c1 : Array Value} {n : Nat} {xs : List Value} (hk : Kept B C W W1) (hC : CBlk W1 C cs2) (hR : W1.heap[R]? = some (.cells cur 49 (0, 0))) (hg1 : W1.heap[g]? = some (.cells c1 5 (0, 0))) (hs1 : c1.size = cap)
    (hgr : W1.grownBy W2 (some g)) (hown : W2.ownsRow B 5 1 (.slice (some ⟨g, 0, none⟩) n cap) n xs) :
    CBlk W2 C cs2 ∧ Kept B C W W2 ∧ W2.heap[R]? = some (.cells cur 49 (0, 0)) ∧ ∃ c2, W2.heap[g]? = some (.cells c2 5 (0, 0)) ∧ c2.size = cap ∧ c2.toList.take n = xs := by
  obtain ⟨c2, h1, h2, h3⟩ := block_of_own hown
  refine ⟨⟨(hgr.block C hC.lt (by simpa using Ne.symm h.gC)).trans hC.1, hC.2⟩, hk.grown5 hB hgr h.hBg hg1 h1 (h2.trans hs1.symm), (hgr.block R (Lib.lt_of_heap hR) (by simpa using h.Rg)).trans hR, c2, h1, h2, h3⟩

/-- The new slice is stored into the blocks' row, and the count goes up. -/
theorem Found.done (h : Found W B C cs1 vb row f held N R vc g l cap cur bcur) (hB : B ≤ W.heap.size) (hN : row.length ≤ held + 1) {W3 : World} {cs2 c3 : Array Value} {n3 : Nat} {kb : List UInt8} (hk : Kept B C W W3) (hC : CBlk W3 C cs2) (hR : W3.heap[R]? = some (.cells cur 49 (0, 0))) (hg3 : W3.heap[g]? = some (.cells c3 5 (0, 0))) (hs3 : c3.size = cap)
    (hn3 : n3 = l + 32 + (Lib.uvarint (kb.length * 2 + 1)).length + kb.length) (hle : n3 ≤ cap) (htk3 : c3.toList.take n3 = bcur.toList.take (l + 32) ++ Lib.byteCells (Lib.uvarint (kb.length * 2 + 1)) ++ Lib.byteCells kb)
    (h5 : cs2[5]? = some vb) (h6 : cs2[6]? = some (.int .i64 f)) :
    ∃ row' cs5, MB ((W3.setCell ⟨R, f, none⟩ (.slice (some ⟨g, 0, none⟩) n3 cap)).setCell ⟨C, 7, none⟩ (.int .i64 ((held : Int) + 1))) B C cs5 vb row' f (held + 1) (held + 1) ∧ Kept B C W ((W3.setCell ⟨R, f, none⟩ (.slice (some ⟨g, 0, none⟩) n3 cap)).setCell ⟨C, 7, none⟩ (.int .i64 ((held : Int) + 1))) ∧
      (∀ i, 8 ≤ i → cs5[i]? = cs2[i]?) ∧ f < row'.length ∧ Rec ((W3.setCell ⟨R, f, none⟩ (.slice (some ⟨g, 0, none⟩) n3 cap)).setCell ⟨C, 7, none⟩ (.int .i64 ((held : Int) + 1))) row' f l kb := by
  have hsz := hk.below.size
  have hC4 : CBlk (W3.setCell ⟨R, f, none⟩ (.slice (some ⟨g, 0, none⟩) n3 cap)) C cs2 := ⟨(Below.heap_setCell _ _ _ _ (Ne.symm h.RC)).trans hC.1, hC.2⟩
  have hk4 : Kept B C W (W3.setCell ⟨R, f, none⟩ (.slice (some ⟨g, 0, none⟩) n3 cap)) := hk.grown49 hB (Lib.grownBy_setCell W3 R f _) (fun g' hg' => by cases hg'; exact ⟨h.hBR, cur, hR⟩)
  have hR4 : (W3.setCell ⟨R, f, none⟩ (.slice (some ⟨g, 0, none⟩) n3 cap)).heap[R]? = some (.cells (cur.setIfInBounds f (.slice (some ⟨g, 0, none⟩) n3 cap)) 49 (0, 0)) := Lib.heap_setCell_same (i := f) hR _
  have hg4 : (W3.setCell ⟨R, f, none⟩ (.slice (some ⟨g, 0, none⟩) n3 cap)).heap[g]? = some (.cells c3 5 (0, 0)) := (Below.heap_setCell _ _ _ _ (Ne.symm h.Rg)).trans hg3
  have hC5 := hC4.set 7 (.int .i64 ((held : Int) + 1))
  have hk5 := hk4.set hC4 h.mb.base 7 (.int .i64 ((held : Int) + 1))
  have hR5 := (Below.heap_setCell (W3.setCell ⟨R, f, none⟩ (.slice (some ⟨g, 0, none⟩) n3 cap)) ⟨C, 7, none⟩ (.int .i64 ((held : Int) + 1)) R h.RC).trans hR4
  have hg5 := (Below.heap_setCell (W3.setCell ⟨R, f, none⟩ (.slice (some ⟨g, 0, none⟩) n3 cap)) ⟨C, 7, none⟩ (.int .i64 ((held : Int) + 1)) g h.gC).trans hg4
  have hflt := h.hlt
  have hrl : (row.set f (.slice (some ⟨g, 0, none⟩) n3 cap)).length = row.length := List.length_set
  refine ⟨row.set f (.slice (some ⟨g, 0, none⟩) n3 cap), cs2.setIfInBounds 7 (.int .i64 ((held : Int) + 1)), ?_, hk5, fun i hi => get_set_other cs2 7 i (by omega) _, by rw [hrl]; exact hflt, ?_⟩
  · refine ⟨hC5, h.mb.base, (get_set_other cs2 7 5 (by decide) _).trans h5, (get_set_other cs2 7 6 (by decide) _).trans h6, by rw [get_set_same hC.2 7 (by decide)]; rfl, ?_, ?_, by rw [hrl]; omega, by rw [hrl]; exact hN⟩
    · rw [hrl]
      refine ⟨by rw [hrl, Nat.mul_one], .inr ⟨R, vc, _, h.hvb, h.hBR, hR5, h.hvc1, h.hvc2, by rw [Array.size_setIfInBounds, Nat.mul_one]; exact h.hcur, ?_⟩⟩
      rw [Nat.mul_one, Array.toList_setIfInBounds, List.take_set, h.htk]
    · intro v hv
      rcases List.mem_or_eq_of_mem_set hv with hv | rfl
      · exact (h.mb.each v hv).kept hk5
      · exact ⟨g, n3, cap, c3, rfl, hle, h.hcap, hg5, hs3, h.hBg⟩
  · refine ⟨g, cap, c3, ?_, hg5, by rw [← hn3]; exact hle, h.hcap, fun j u hj => ?_⟩
    · rw [List.getElem?_set_self hflt, hn3]
    · rw [Lib.byteCells_append] at hj
      have hjl := (List.getElem?_eq_some_iff.1 hj).1
      rw [List.length_append, Lib.byteCells_length, Lib.byteCells_length] at hjl
      have hl32 : (bcur.toList.take (l + 32)).length = l + 32 := by rw [List.length_take, Array.length_toList, h.hgs]; omega
      have e1 : (c3.toList.take n3)[l + 32 + j]? = some u := by
        rw [htk3, List.append_assoc, List.getElem?_append_right (by omega), hl32]
        have e2 : l + 32 + j - (l + 32) = j := by omega
        rw [e2]
        exact hj
      rw [List.getElem?_take, if_pos (by omega)] at e1
      rw [← Array.getElem?_toList]
      exact e1
end
end Go.Proofs.Ybulkahxy
