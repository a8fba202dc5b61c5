/-
  (*container).addStringKey: the walk.
-/
import Derived.Test.YbulkahxyMKey
import Derived.Deep.QuietTactic
import Derived.BigQuiet
import Derived.Deep.RegionLaw
import Derived.Deep.DeepCutAuto
namespace Go.Proofs.Ybulkahxy
open Go.RowKit

theorem KeyPost.shift {w w1 w' : World} {B C : Nat} {cs : Array Value} {held : Nat} {kb : List UInt8} {ks : List Value} {e : Ending} (hk : Kept B C w w1) (h : KeyPost w1 B C cs held kb ks e w') : KeyPost w B C cs held kb ks e w' := by
  obtain ⟨he, cs', vb', row', f, off, s⟩ := h
  exact ⟨he, cs', vb', row', f, off, s.mb, hk.trans s.kept, s.c8, s.c9, s.key, s.rest, s.lt, s.recd⟩

theorem KeyPost.drew {w w' : World} {B C : Nat} {cs : Array Value} {held : Nat} {kb : List UInt8} {ks : List Value} {e : Ending} (h : KeyPost w B C cs held kb ks e w') : KeyPost w B C cs held kb ks e w'.drew := by
  obtain ⟨he, cs', vb', row', f, off, s⟩ := h
  exact ⟨he, cs', vb', row', f, off, s.mb.drew, s.kept.drew, s.c8, s.c9, s.key, s.rest, s.lt, s.recd⟩

theorem KeyPost.cell {w w' : World} {B C : Nat} {cs : Array Value} {held : Nat} {kb : List UInt8} {ks : List Value} {e : Ending} (h : KeyPost w B C cs held kb ks e w') (i : Nat) (hi : 45 ≤ i) : w'.cell? ⟨C, i, none⟩ = cs[i]? := by
  obtain ⟨he, cs', vb', row', f, off, s⟩ := h
  exact (s.mb.blk.cell i).trans (s.rest i hi)

theorem KeyPost.kept {w w' : World} {B C : Nat} {cs : Array Value} {held : Nat} {kb : List UInt8} {ks : List Value} {e : Ending} (h : KeyPost w B C cs held kb ks e w') : Kept B C w w' := by
  obtain ⟨he, cs', vb', row', f, off, s⟩ := h
  exact s.kept

set_option maxHeartbeats 1600000 in
set_option maxRecDepth 100000 in
theorem ckey_none (B C L gs cc : Nat) (kb : List UInt8) (ks : List Value) (hks : IsRef ks) (cs : Array Value) (vb : Value) (row : List Value) (fill held : Nat) (w : World) (h : MB w B C cs vb row fill held held) (hB : B ≤ w.heap.size) (hkb : kb.length = L) (hL : L ≤ 65536) (hh : held ≤ 300) (hsrc : SrcBlk w gs kb) (h49 : cs[49]? = some (.pointer none)) :
    Calls Yba.prog 5 #[.pointer (some ⟨C, 0, none⟩), .slice (some ⟨gs, 0, none⟩) L cc, .agg ks.toArray] w fun e w' => KeyPost w B C cs held kb ks e w' := by
  have HKS := Lib.hid hks
  clear hks
  go_enter Yba.func5, Yba.ntmps5
  go_wp2_with fail
  have hk1 : Kept B C w (w.alloc (.cells ks.toArray 24)) := (Kept.refl B C w).alloc hB _
  have hrg : (w.alloc (.cells ks.toArray 24)).rangeAt w.heap.size 0 ks := range_block (heap_alloc_new w _)
  have hu24 := Yba.underlying24
  have hi24 : (Yba.prog.info? 24).map (·.size) = some ks.length := info24.trans (by rw [HKS.out.1])
  go_region_held3 (fun w' => w'.rangeAt w.heap.size 0 ks) (go_keep_ranges)
    ((refine (mkey_any B C L gs cc kb ks HKS.out cs vb row fill held _ (h.alloc hB _).drew (Nat.le_trans hB hk1.below.size) hkb hL hh (hsrc.keptIn h.blk hk1.drew)).mono ?_; rintro e w2 hp; obtain rfl := hp.1; have hrg2 : w2.rangeAt w.heap.size 0 ks := range_block (hp.kept.other (h.blk.alloc _) (heap_alloc_new w _) (by decide) (by decide) (by decide)); have c49 : w2.cell? ⟨C, 49, none⟩ = some (.pointer none) := (hp.cell 49 (by decide)).trans h49; have HP := Lib.hid (hp.shift hk1.drew); clear hp))
  clear hu24 hi24
  go_wp2
  go_end0
  exact HP.out

theorem conv_src {w : World} {gs cc : Nat} {kb : List UInt8} (h : SrcBlk w gs kb) : (convert 49 9 (.slice (some ⟨gs, 0, none⟩) kb.length cc)).run Yba.prog w = .ok (.string ⟨kb.toArray⟩) w :=
  run_convert_bytes_back (P := Yba.prog) w 49 9 5 ⟨gs, 0, none⟩ cc kb Yba.underlying49 Yba.underlying5 Yba.underlying9 (fun j hj => h.cells j _ (by rw [Lib.byteCells, List.getElem?_map, List.getElem?_eq_getElem hj]; rfl))

theorem SrcBlk.set {w : World} {gs k : Nat} {kb : List UInt8} {c : Array Value} {t : TypeId} {fr : Nat × Nat} (h : SrcBlk w gs kb) (hk : w.heap[k]? = some (.cells c t fr)) (ht : t ≠ 5) (i : Nat) (v : Value) : SrcBlk (w.setCell ⟨k, i, none⟩ v) gs kb := by
  obtain ⟨bc, m, hg, hc⟩ := h
  exact ⟨bc, m, (Below.heap_setCell w ⟨k, i, none⟩ v gs (blocks_ne hg hk (Ne.symm ht))).trans hg, hc⟩

/-- What the container's addStringKey leaves where a trace is set. -/
def TracePost (w : World) (B C T : Nat) (cs : Array Value) (held : Nat) (kb : List UInt8) (ks : List Value) (t : Bool) (e : Ending) (w' : World) : Prop :=
  ∃ w2, KeyPost w B C cs held kb ks e w2 ∧ w' = (w2.setCell ⟨C, 53, none⟩ (.bool t)).setCell ⟨T, 38, none⟩ (.bool t)

set_option maxHeartbeats 1600000 in
set_option maxRecDepth 100000 in
theorem ckey_trace (B C T L gs cc : Nat) (kb : List UInt8) (ks : List Value) (hks : IsRef ks) (cs ct : Array Value) (seg : ByteArray) (vb : Value) (row : List Value) (fill held : Nat) (w : World) (h : MB w B C cs vb row fill held held) (hB : B ≤ w.heap.size) (hkb : kb.length = L) (hL : L ≤ 65536) (hh : held ≤ 300) (hsrc : SrcBlk w gs kb) (h49 : cs[49]? = some (.pointer (some ⟨T, 0, none⟩))) (h51 : cs[51]? = some (.string seg)) (hT : w.heap[T]? = some (.cells ct 30 (0, 0))) (hct : ct.size = 40) (k : ByteArray) (hk : (⟨kb.toArray⟩ : ByteArray) = k) (t : Bool) (ht : (k.toList == seg.toList) = t) :
    Calls Yba.prog 5 #[.pointer (some ⟨C, 0, none⟩), .slice (some ⟨gs, 0, none⟩) L cc, .agg ks.toArray] w fun e w' => TracePost w B C T cs held kb ks t e w' := by
  have HKS := Lib.hid hks
  clear hks
  go_enter Yba.func5, Yba.ntmps5
  go_wp2_with fail
  have hk1 : Kept B C w (w.alloc (.cells ks.toArray 24)) := (Kept.refl B C w).alloc hB _
  have hrg : (w.alloc (.cells ks.toArray 24)).rangeAt w.heap.size 0 ks := range_block (heap_alloc_new w _)
  have hu24 := Yba.underlying24
  have hi24 : (Yba.prog.info? 24).map (·.size) = some ks.length := info24.trans (by rw [HKS.out.1])
  go_region_held3 (fun w' => w'.rangeAt w.heap.size 0 ks) (go_keep_ranges)
    ((refine (mkey_any B C L gs cc kb ks HKS.out cs vb row fill held _ (h.alloc hB _).drew (Nat.le_trans hB hk1.below.size) hkb hL hh (hsrc.keptIn h.blk hk1.drew)).mono ?_; rintro e w2 hp; obtain rfl := hp.1; have hrg2 : w2.rangeAt w.heap.size 0 ks := range_block (hp.kept.other (h.blk.alloc _) (heap_alloc_new w _) (by decide) (by decide) (by decide)); have HP := Lib.hid (hp.shift hk1.drew); clear hp))
  clear hu24 hi24 hk1 hrg hrg2
  have c49 : w2.cell? ⟨C, 49, none⟩ = some (.pointer (some ⟨T, 0, none⟩)) := (HP.out.cell 49 (by decide)).trans h49
  have c51 : w2.cell? ⟨C, 51, none⟩ = some (.string seg) := (HP.out.cell 51 (by decide)).trans h51
  obtain ⟨v53, hv53⟩ := h.blk.there 53 (by decide)
  have c53 : w2.cell? ⟨C, 53, none⟩ = some v53 := (HP.out.cell 53 (by decide)).trans hv53
  have f53 : w2.frozen? ⟨C, 53, none⟩ = false := by
    obtain ⟨he, cs', vb', row', f, off, s⟩ := HP.out
    exact s.mb.blk.free 53
  have hT2 := HP.out.kept.other h.blk hT (by decide) (by decide) (by decide)
  have hTC : T ≠ C := blocks_ne hT h.blk.1 (by decide)
  obtain ⟨vT, hvT⟩ : ∃ v, ct[38]? = some v := ⟨ct[38], by simp [hct]⟩
  have cT : w2.cell? ⟨T, 38, none⟩ = some vT := (Lib.cell_of_heap hT2 38).trans hvT
  have fT : w2.frozen? ⟨T, 38, none⟩ = false := Lib.frozen_of_heap hT2 38
  have hsrc2 := hsrc.keptIn h.blk HP.out.kept
  subst hkb
  have hcv : (convert 49 9 (.slice (some ⟨gs, 0, none⟩) kb.length cc)).run Yba.prog w2 = .ok (.string k) w2 := by rw [← hk]; exact conv_src hsrc2
  have hcv1 : (convert 49 9 (.slice (some ⟨gs, 0, none⟩) kb.length cc)).run Yba.prog w2.drew = .ok (.string k) w2.drew := by rw [← hk]; exact conv_src hsrc2
  have hcv2 : (convert 49 9 (.slice (some ⟨gs, 0, none⟩) kb.length cc)).run Yba.prog ((w2.drew.setCell ⟨C, 53, none⟩ (.bool t)).setCell ⟨T, 38, none⟩ (.bool t)) = .ok (.string k) ((w2.drew.setCell ⟨C, 53, none⟩ (.bool t)).setCell ⟨T, 38, none⟩ (.bool t)) := by
    rw [← hk]
    obtain ⟨he, cs', vb', row', f, off, s⟩ := HP.out
    have hs1 : SrcBlk w2.drew gs kb := hsrc2
    have hC1 : w2.drew.heap[C]? = _ := s.mb.blk.1
    have hT1 : w2.drew.heap[T]? = _ := hT2
    exact conv_src ((hs1.set hC1 (by decide) 53 (.bool t)).set ((Below.heap_setCell w2.drew ⟨C, 53, none⟩ (.bool t) T hTC).trans hT1) (by decide) 38 (.bool t))
  have d49 : w2.drew.cell? ⟨C, 49, none⟩ = some (.pointer (some ⟨T, 0, none⟩)) := c49
  have d53 : w2.drew.cell? ⟨C, 53, none⟩ = some v53 := c53
  have g53 : w2.drew.frozen? ⟨C, 53, none⟩ = false := f53
  have dT : w2.drew.cell? ⟨T, 38, none⟩ = some vT := cT
  have gT : w2.drew.frozen? ⟨T, 38, none⟩ = false := fT
  have d51 : ((w2.drew.setCell ⟨C, 53, none⟩ (.bool t)).setCell ⟨T, 38, none⟩ (.bool t)).cell? ⟨C, 51, none⟩ = some (.string seg) :=
    (World.cell?_setCell_other _ _ _ _ (by simp)).trans ((World.cell?_setCell_other _ _ _ _ (by simp)).trans c51)
  clear h hT hT2 hsrc h49 h51 hv53 hvT hsrc2 hh hB hct hk hL HKS
  go_wp2_with fail
  go_region_held3 (fun w' => w'.cell? ⟨C, 51, none⟩ = some (.string seg) ∧ (convert 49 9 (.slice (some ⟨gs, 0, none⟩) kb.length cc)).run Yba.prog w' = .ok (.string k) w') (first | assumption | go_keep)
    ((refine (aim_any C T v53 vT (.bool t) t _ rfl d53 g53 d49 dT gT).mono ?_; rintro e w3 ⟨rfl, rfl⟩; have hS := And.intro d51 hcv2))
  clear hcv hcv1 hcv2 hS d49 d53 g53 dT gT d51 c49 c51 c53 f53 cT fT
  go_wp2
  go_end0
  exact ⟨w2.drew, HP.out.drew, rfl⟩
end Go.Proofs.Ybulkahxy
