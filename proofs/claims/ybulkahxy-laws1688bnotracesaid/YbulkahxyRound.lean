/-
  One round of the laws' loop: what is known ahead of it, between its calls and behind it. No walk.
-/
import Derived.Test.YbulkahxyRecord
import Derived.Lib.ConvBytes
import Derived.Lib.AtoiErrMem
namespace Go.Proofs.Ybulkahxy
open Go.RowKit

theorem Kept.fresh {B C : Nat} {w W : World} (h : Below w.heap.size w W) (hB : B ≤ w.heap.size) : Kept B C w W :=
  ⟨h.mono hB, fun k hk _ _ _ => h.block k hk, fun k c hc => ⟨c, (h.block k (Lib.lt_of_heap hc)).trans hc, rfl⟩⟩

theorem CBlk.fresh {C : Nat} {w W : World} {cs : Array Value} (hC : CBlk w C cs) (h : Below w.heap.size w W) : CBlk W C cs := ⟨(h.block C hC.lt).trans hC.1, hC.2⟩

theorem MB.fresh {w W : World} {B C : Nat} {cs : Array Value} {vb : Value} {row : List Value} {fill held N : Nat} (h : MB w B C cs vb row fill held N) (hb : Below w.heap.size w W) (hB : B ≤ w.heap.size) : MB W B C cs vb row fill held N := by
  refine h.kept (Kept.fresh hb hB) (h.blk.fresh hb) h.c5 h.c6 h.c7 ?_ h.fill_le h.len_le
  refine ⟨h.own.1, ?_⟩
  rcases h.own.2 with h0 | ⟨g, cap, cur, e, hBg, hg, r⟩
  · exact .inl h0
  · exact .inr ⟨g, cap, cur, e, hBg, (hb.block g (Lib.lt_of_heap hg)).trans hg, r⟩

/-- Cells of a known block are written, many at once. -/
theorem block_setCells {b : Nat} {t : TypeId} : ∀ (vs : List Value) (o : Nat) (w : World) (cs : Array Value), w.heap[b]? = some (.cells cs t (0, 0)) → o + vs.length ≤ cs.size →
    ∃ cs', (w.setCells b o vs).heap[b]? = some (.cells cs' t (0, 0)) ∧ cs'.size = cs.size ∧ (∀ (j : Nat) (v : Value), vs[j]? = some v → cs'[o + j]? = some v) ∧ (∀ i : Nat, i < o → cs'[i]? = cs[i]?)
  | [], o, w, cs, hg, _ => ⟨cs, hg, rfl, fun j v hv => by simp at hv, fun _ _ => rfl⟩
  | v :: r, o, w, cs, hg, hle => by
    rw [List.length_cons] at hle
    obtain ⟨cs', h1, h2, h3, h4⟩ := block_setCells r (o + 1) (w.setCell ⟨b, o, none⟩ v) (cs.setIfInBounds o v) (Lib.heap_setCell_same (i := o) hg v) (by rw [Array.size_setIfInBounds]; omega)
    rw [Array.size_setIfInBounds] at h2
    refine ⟨cs', h1, h2, fun j u hu => ?_, fun i hi => ?_⟩
    · match j, hu with
      | 0, hu =>
        simp at hu
        subst hu
        rw [Nat.add_zero, h4 o (by omega), Array.getElem?_setIfInBounds_self_of_lt (by omega)]
      | j + 1, hu =>
        have := h3 j u (by simpa using hu)
        rw [← this]
        congr 1
        omega
    · rw [h4 i (by omega)]
      exact Array.getElem?_setIfInBounds_ne (by omega)

/-- A new block, then all its cells. -/
theorem block_filled (w : World) (zs : Array Value) (t : TypeId) (vs : List Value) (hz : zs.size = vs.length) : ((w.alloc (.cells zs t)).setCells w.heap.size 0 vs).heap[w.heap.size]? = some (.cells vs.toArray t (0, 0)) := by
  obtain ⟨cs', h1, h2, h3, _⟩ := block_setCells vs 0 (w.alloc (.cells zs t)) zs (heap_alloc_new w _) (by omega)
  have e : cs' = vs.toArray := by
    apply Array.ext_getElem?
    intro i
    by_cases hi : i < vs.length
    · have := h3 i vs[i] (List.getElem?_eq_getElem hi)
      rw [Nat.zero_add] at this
      rw [this]
      exact (List.getElem?_toArray.trans (List.getElem?_eq_getElem hi)).symm
    · have e1 : cs'[i]? = none := Array.getElem?_eq_none (by omega)
      have e2 : vs[i]? = none := List.getElem?_eq_none (by omega)
      rw [e1]
      exact (List.getElem?_toArray.trans e2).symm
  rw [h1, e]

theorem below_setCells' {B b : Nat} {a : World} (hb : B ≤ b) : ∀ (vs : List Value) (o : Nat) (w : World), Below B a w → Below B a (w.setCells b o vs)
  | [], _, _, h => h
  | v :: r, o, _, h => below_setCells' hb r (o + 1) _ (h.setCell (p := ⟨b, o, none⟩) hb v)

theorem below_filled (w : World) (zs : Array Value) (t : TypeId) (vs : List Value) : Below w.heap.size w ((w.alloc (.cells zs t)).setCells w.heap.size 0 vs) :=
  below_setCells' (Nat.le_refl _) vs 0 _ ((Below.refl _ w).alloc (Nat.le_refl _) _)

/-- The reference of round i: the first byte turned. -/
def turned (ks : List Value) (x : Int) : List Value := ks.set 0 (.int .u8 x)

theorem turned_ref {ks : List Value} (h : IsRef ks) (x : Int) : IsRef (turned ks x) := by
  refine ⟨by rw [turned, List.length_set]; exact h.1, fun v hv => ?_⟩
  rcases List.mem_or_eq_of_mem_set hv with hv | rfl
  · exact h.2 v hv
  · exact ⟨x, rfl⟩

/-- The world behind 'r := key; r[0] += byte(i)'. -/
theorem turned_world (w : World) (zs : Array Value) (ks : List Value) (hz : zs.size = ks.length) (x : Int) :
    (((w.alloc (.cells zs 24)).setCells w.heap.size 0 ks).setCell ⟨w.heap.size, 0, none⟩ (.int .u8 x)).heap[w.heap.size]? = some (.cells (turned ks x).toArray 24 (0, 0)) ∧
    Below w.heap.size w (((w.alloc (.cells zs 24)).setCells w.heap.size 0 ks).setCell ⟨w.heap.size, 0, none⟩ (.int .u8 x)) := by
  refine ⟨?_, (below_filled w zs 24 ks).setCell (p := ⟨w.heap.size, 0, none⟩) (Nat.le_refl _) _⟩
  rw [Lib.heap_setCell_same (i := 0) (block_filled w zs 24 ks hz)]
  simp [turned]

/-- '[]byte(k)'. -/
theorem src_bytes (w : World) (s : ByteArray) : SrcBlk (Lib.bytesWorld w 5 s) w.heap.size s.data.toList := by
  refine ⟨_, _, Lib.bytesWorld_at_new w 5 s, fun j u hu => ?_⟩
  have hj : j < s.data.toList.length := by
    have := (List.getElem?_eq_some_iff.1 hu).1
    rwa [Lib.byteCells_length] at this
  have hj2 : j < s.size := by rw [Lib.size_eq]; exact hj
  have := Lib.bytesWorld_cell w 5 s j hj2
  rw [Lib.cell_of_heap (Lib.bytesWorld_at_new w 5 s)] at this
  rw [this, ← hu, Lib.byteCells, List.getElem?_map, List.getElem?_eq_getElem hj]
  simp [List.getD, List.getElem?_eq_getElem hj]

/-- What holds ahead of round k. -/
structure Inv (w wr : World) (C : Nat) (ks : List Value) (k : Nat) (cs : Array Value) (vb : Value) (row : List Value) (f : Nat) : Prop where
  mb : MB wr w.heap.size C cs vb row f k k
  below : Below w.heap.size w wr
  key : wr.heap[w.heap.size]? = some (.cells ks.toArray 24 (0, 0))

/-- The world in which the key is added. -/
structure Pre (wr W : World) (r : Nat) (kt : List Value) (gs : Nat) (kb : List UInt8) : Prop where
  below : Below wr.heap.size wr W
  ref : W.heap[r]? = some (.cells kt.toArray 24 (0, 0))
  src : SrcBlk W gs kb

theorem pre_of (wr : World) (zs : Array Value) (ks : List Value) (hz : zs.size = ks.length) (x : Int) (s : ByteArray) (W3 : World) (h3 : W3 = ((wr.alloc (.cells zs 24)).setCells wr.heap.size 0 ks).setCell ⟨wr.heap.size, 0, none⟩ (.int .u8 x)) :
    Pre wr (Lib.bytesWorld W3 5 s) wr.heap.size (turned ks x) W3.heap.size s.data.toList := by
  subst h3
  obtain ⟨h1, h2⟩ := turned_world wr zs ks hz x
  have hb := Lib.bytesWorld_below (((wr.alloc (.cells zs 24)).setCells wr.heap.size 0 ks).setCell ⟨wr.heap.size, 0, none⟩ (.int .u8 x)) 5 s
  exact ⟨h2.trans (hb.mono h2.size), (hb.block _ (Lib.lt_of_heap h1)).trans h1, src_bytes _ s⟩

theorem Inv.pre {w wr W : World} {C k r gs : Nat} {ks kt : List Value} {kb : List UInt8} {cs : Array Value} {vb : Value} {row : List Value} {f : Nat} (h : Inv w wr C ks k cs vb row f) (p : Pre wr W r kt gs kb) :
    MB W w.heap.size C cs vb row f k k ∧ w.heap.size ≤ W.heap.size ∧ SrcBlk W gs kb :=
  ⟨h.mb.fresh p.below h.below.size, Nat.le_trans h.below.size p.below.size, p.src⟩

/-- What holds behind the key's adding, ahead of the check. -/
structure Mid (w w5 : World) (C : Nat) (ks kt : List Value) (r k : Nat) (kb : List UInt8) (cs5 : Array Value) (vb : Value) (row : List Value) (f off : Nat) : Prop where
  at_ : RecAt w5 w.heap.size C cs5 vb row f off (k + 1) kb kt
  below : Below w.heap.size w w5
  key : w5.heap[w.heap.size]? = some (.cells ks.toArray 24 (0, 0))
  ref : w5.heap[r]? = some (.cells kt.toArray 24 (0, 0))

theorem mid_none {w wr W w5 : World} {C k r gs : Nat} {ks kt : List Value} {kb : List UInt8} {cs : Array Value} {vb : Value} {row : List Value} {f : Nat} (h : Inv w wr C ks k cs vb row f) (p : Pre wr W r kt gs kb) (hp : KeyPost W w.heap.size C cs k kb kt (.returned (.tuple #[])) w5) :
    ∃ cs5 vb5 row5 f5 off, Mid w w5 C ks kt r k kb cs5 vb5 row5 f5 off ∧ Kept w.heap.size C W w5 ∧ ∀ i : Nat, 45 ≤ i → cs5[i]? = cs[i]? := by
  obtain ⟨hmb, hB, hsrc⟩ := h.pre p
  obtain ⟨_, cs5, vb5, row5, f5, off, s⟩ := hp
  refine ⟨cs5, vb5, row5, f5, off, ⟨⟨s.mb, s.c8, s.c9, s.key, s.lt, s.recd⟩, ?_, ?_, ?_⟩, s.kept, s.rest⟩
  · exact h.below.trans ((p.below.mono h.below.size).trans s.kept.below)
  · exact s.kept.other hmb.blk ((p.below.block _ (Lib.lt_of_heap h.key)).trans h.key) (by decide) (by decide) (by decide)
  · exact s.kept.other hmb.blk p.ref (by decide) (by decide) (by decide)

/-- Two flags are set: in the container and in the trace. -/
theorem Mid.flag {w w5 : World} {C T : Nat} {ks kt : List Value} {r k : Nat} {kb : List UInt8} {cs5 ct : Array Value} {vb : Value} {row : List Value} {f off : Nat} (h : Mid w w5 C ks kt r k kb cs5 vb row f off) (hT : w5.heap[T]? = some (.cells ct 30 (0, 0))) (hB : w.heap.size ≤ T) (hkt : kt.length = 32) (a b : Value) :
    Mid w ((w5.setCell ⟨C, 53, none⟩ a).setCell ⟨T, 38, none⟩ b) C ks kt r k kb (cs5.setIfInBounds 53 a) vb row f off := by
  have hC := h.at_.mb.blk
  have hTC : T ≠ C := blocks_ne hT hC.1 (by decide)
  have hT1 : (w5.setCell ⟨C, 53, none⟩ a).heap[T]? = some (.cells ct 30 (0, 0)) := (Below.heap_setCell w5 ⟨C, 53, none⟩ a T hTC).trans hT
  have hh : ∀ i : Nat, i ≠ C → i ≠ T → ((w5.setCell ⟨C, 53, none⟩ a).setCell ⟨T, 38, none⟩ b).heap[i]? = w5.heap[i]? := fun i h1 h2 => (Below.heap_setCell _ ⟨T, 38, none⟩ b i h2).trans (Below.heap_setCell _ ⟨C, 53, none⟩ a i h1)
  have hC1 : CBlk ((w5.setCell ⟨C, 53, none⟩ a).setCell ⟨T, 38, none⟩ b) C (cs5.setIfInBounds 53 a) := ⟨(Below.heap_setCell _ ⟨T, 38, none⟩ b C (Ne.symm hTC)).trans (hC.set 53 a).1, (hC.set 53 a).2⟩
  have hg : ∀ (i : Nat) (c : Array Value) (t : TypeId), w5.heap[i]? = some (.cells c t (0, 0)) → t ≠ 47 → t ≠ 30 → ((w5.setCell ⟨C, 53, none⟩ a).setCell ⟨T, 38, none⟩ b).heap[i]? = some (.cells c t (0, 0)) := fun i c t hi h1 h2 => (hh i (blocks_ne hi hC.1 h1) (blocks_ne hi hT h2)).trans hi
  refine ⟨⟨⟨hC1, h.at_.mb.base, ?_, ?_, ?_, ⟨h.at_.mb.own.1, ?_⟩, fun v hv => ?_, h.at_.mb.fill_le, h.at_.mb.len_le⟩, ?_, ?_, fun j v hv => ?_, h.at_.lt, ?_⟩, ?_, hg _ _ _ h.key (by decide) (by decide), hg _ _ _ h.ref (by decide) (by decide)⟩
  · exact (get_set_other _ 53 5 (by decide) _).trans h.at_.mb.c5
  · exact (get_set_other _ 53 6 (by decide) _).trans h.at_.mb.c6
  · exact (get_set_other _ 53 7 (by decide) _).trans h.at_.mb.c7
  · rcases h.at_.mb.own.2 with h0 | ⟨g, cap, cur, e, hBg, hgg, rr⟩
    · exact .inl h0
    · exact .inr ⟨g, cap, cur, e, hBg, hg _ _ _ hgg (by decide) (by decide), rr⟩
  · obtain ⟨g, l, cap, cur, rfl, a1, a2, a3, a4, a5⟩ := h.at_.mb.each v hv
    exact ⟨g, l, cap, cur, rfl, a1, a2, hg _ _ _ a3 (by decide) (by decide), a4, a5⟩
  · exact (get_set_other _ 53 8 (by decide) _).trans h.at_.c8
  · exact (get_set_other _ 53 9 (by decide) _).trans h.at_.c9
  · have hj : j < kt.length := (List.getElem?_eq_some_iff.1 hv).1
    exact (get_set_other _ 53 (13 + j) (by omega) _).trans (h.at_.key j v hv)
  · obtain ⟨g, cap, cur, h1, h2, rr⟩ := h.at_.recd
    exact ⟨g, cap, cur, h1, hg _ _ _ h2 (by decide) (by decide), rr⟩
  · exact (h.below.setCell (p := ⟨C, 53, none⟩) h.at_.mb.base a).setCell (p := ⟨T, 38, none⟩) hB b

/-- Behind the check: the next round's condition. -/
theorem Mid.next {w w5 W6 : World} {C : Nat} {ks kt kt' : List Value} {r k n : Nat} {kb : List UInt8} {cs5 : Array Value} {vb : Value} {row : List Value} {f off : Nat} (h : Mid w w5 C ks kt r k kb cs5 vb row f off) (hW : W6 = (w5.alloc (.cells kt'.toArray 24)).drewN n) :
    Inv w W6 C ks (k + 1) cs5 vb row f ∧ Below w5.heap.size w5 W6 := by
  subst hW
  refine ⟨⟨(h.at_.mb.alloc h.below.size _).drewN n, below_drewN (h.below.alloc h.below.size _) n, ?_⟩, below_drewN ((Below.refl _ _).alloc (Nat.le_refl _) _) n⟩
  exact (Below.heap_alloc w5 _ _ (Lib.lt_of_heap h.key)).trans h.key
end Go.Proofs.Ybulkahxy
