/-
  (*mapBuilder).addStringKey: the walk.
-/
import Derived.Test.YbulkahxyKey
namespace Go.Proofs.Ybulkahxy
open Go.RowKit

theorem CBlk.alloc {w : World} {C : Nat} {cs : Array Value} (h : CBlk w C cs) (o : Obj) : CBlk (w.alloc o) C cs := ⟨(Below.heap_alloc w o C h.lt).trans h.1, h.2⟩

theorem MB.alloc {w : World} {B C : Nat} {cs : Array Value} {vb : Value} {row : List Value} {fill held N : Nat} (h : MB w B C cs vb row fill held N) (hB : B ≤ w.heap.size) (o : Obj) : MB (w.alloc o) B C cs vb row fill held N :=
  h.kept ((Kept.refl B C w).alloc hB o) (h.blk.alloc o) h.c5 h.c6 h.c7 (h.own.alloc o) h.fill_le h.len_le

/-- A block of another kind than the rows' stays. -/
theorem Kept.other {B C k : Nat} {w w' : World} {cs c : Array Value} {t : TypeId} {fr : Nat × Nat} (hk : Kept B C w w') (hC : CBlk w C cs) (hg : w.heap[k]? = some (.cells c t fr)) (h1 : t ≠ 5) (h2 : t ≠ 49) (h3 : t ≠ 47) : w'.heap[k]? = some (.cells c t fr) := by
  refine (hk.block k (Lib.lt_of_heap hg) (blocks_ne hg hC.1 h3) (fun c' e => ?_) (fun c' e => ?_)).trans hg
  · rw [hg] at e
    injection e with e
    injection e with _ e _
    exact h1 e
  · rw [hg] at e
    injection e with e
    injection e with _ e _
    exact h2 e

theorem range_block {w : World} {b : Nat} {ks : List Value} {t : TypeId} {fr : Nat × Nat} (hb : w.heap[b]? = some (.cells ks.toArray t fr)) : w.rangeAt b 0 ks := fun j v hv => by
  rw [Nat.zero_add, Lib.cell_of_heap hb, List.getElem?_toArray]
  exact hv

set_option maxHeartbeats 1600000 in
set_option maxRecDepth 100000 in
theorem mkey_any (B C L gs cc : Nat) (kb : List UInt8) (ks : List Value) (hks : IsRef ks) (cs : Array Value) (vb : Value) (row : List Value) (fill held : Nat) (w : World) (h : MB w B C cs vb row fill held held) (hB : B ≤ w.heap.size) (hkb : kb.length = L) (hL : L ≤ 65536) (hh : held ≤ 300) (hsrc : SrcBlk w gs kb) :
    Calls Yba.prog 7 #[.pointer (some ⟨C, 5, none⟩), .slice (some ⟨gs, 0, none⟩) L cc, .agg ks.toArray] w fun e w' => KeyPost w B C cs held kb ks e w' := by
  have HKS := Lib.hid hks
  clear hks
  go_enter Yba.func7, Yba.ntmps7
  go_wp2_with fail
  have hk1 : Kept B C w (w.alloc (.cells ks.toArray 24)) := (Kept.refl B C w).alloc hB _
  refine (begin_any B C L gs cc kb cs vb row fill held _ (h.alloc hB _) (Nat.le_trans hB hk1.below.size) hkb hL hh (hsrc.keptIn h.blk hk1)).mono ?_
  rintro e w2 hp
  obtain rfl := hp.1
  obtain ⟨ht, hpost⟩ := key_stored HKS.out hk1 hp
  have hK : w2.rangeAt w.heap.size 0 ks := by
    obtain ⟨_, cs', vb', row', f, off, hmb, hk, _⟩ := hp
    exact range_block (hk.other (h.blk.alloc _) (heap_alloc_new w _) (by decide) (by decide) (by decide))
  have HP := Lib.hid hpost
  have HT := Lib.hid ht
  have HR := Lib.hid hK
  clear hpost ht hK hp hk1 h hsrc
  go_wp2_with (first
    | (refine wpList_load_mid rfl 24 _ rfl w.heap.size 0 rfl ks _ HR.out Yba.underlying24 rfl (info24.trans (by rw [HKS.out.1])) ?_)
    | (refine wpList_store_mid rfl 24 _ _ rfl C 13 ks.toArray rfl rfl (by simpa [HKS.out.1] using HT.out) (info24.trans (by simp [HKS.out.1])) (all_oneCell_toArray HKS.out.one) ?_))
  go_end0
  exact HP.out
end Go.Proofs.Ybulkahxy
