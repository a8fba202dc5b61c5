/-
  (*mapBuilder).begin: the walk.
-/
import Derived.Test.YbulkahxyGrow
import Derived.Deep.QuietTactic
import Derived.BigQuiet
import Derived.Deep.RegionLaw
import Derived.Deep.DeepCutAuto
namespace Go.Proofs.Ybulkahxy
open Go.RowKit

set_option maxHeartbeats 3200000 in
set_option maxRecDepth 100000 in
theorem begin_any (B C L gs cc : Nat) (kb : List UInt8) (cs : Array Value) (vb : Value) (row : List Value) (fill held : Nat) (w : World) (h : MB w B C cs vb row fill held held) (hB : B ≤ w.heap.size) (hkb : kb.length = L) (hL : L ≤ 65536) (hh : held ≤ 300) (hsrc : SrcBlk w gs kb) :
    Calls Yba.prog 10 #[.pointer (some ⟨C, 5, none⟩), .slice (some ⟨gs, 0, none⟩) L cc, .bool true] w fun e w' => BeginPost w B C cs held kb e w' := by
  have hor := or_one L hL
  have HK := Lib.hid hkb
  have HSRC := Lib.hid hsrc
  clear hkb hsrc
  go_enter Yba.func10, Yba.ntmps10
  go_wp2
  clear hor
  go_loopw [] (fun wr => ∃ (f : Nat) (cs1 : Array Value), Hid (MB wr B C cs1 vb row f held held) ∧ Hid (Kept B C w wr) ∧ Hid (∀ i, 8 ≤ i → cs1[i]? = cs[i]?)) (fun wr => row.length - fillOf wr C)
  case atStart => exact ⟨fill, cs, h, Kept.refl _ _ _, fun _ _ => rfl⟩
  case round =>
    obtain ⟨f, cs1, hmb, hk, hcs⟩ := hrel
    have c5 : wr.cell? ⟨C, 5, none⟩ = some vb := (hmb.out.blk.cell 5).trans hmb.out.c5
    have c6 : wr.cell? ⟨C, 6, none⟩ = some (.int .i64 f) := (hmb.out.blk.cell 6).trans hmb.out.c6
    have f6 : wr.frozen? ⟨C, 6, none⟩ = false := hmb.out.blk.free 6
    have hf := hmb.out.fill_le
    have hl300 : row.length ≤ 300 := Nat.le_trans hmb.out.len_le hh
    by_cases hlt : f < row.length
    · obtain ⟨R, vc, g, l, cap, cur, bcur, hfd⟩ := Found.of hmb.out hlt
      have HF := Lib.hid hfd
      obtain rfl := hfd.hvb
      have cr := hfd.rcell
      have hcap := hfd.hcap
      have hlc := hfd.hlc
      clear hfd
      have hi1 : (0 : Int) ≤ (f : Int) := by omega
      have hi2 : (f : Int) < (row.length : Int) := by omega
      have hw1 : IntKind.i64.wrap ((cap : Int) - (l : Int)) = (cap : Int) - (l : Int) := by rw [IntKind.wrap_i64]; omega
      by_cases hroom : (cap : Int) - (l : Int) < 42 + (L : Int)
      · go_wp2_with fail
        go_region_held3 (fun w' => w'.cell? ⟨C, 5, none⟩ = some (.slice (some ⟨R, 0, none⟩) row.length vc) ∧ w'.cell? ⟨C, 6, none⟩ = some (.int .i64 f) ∧ w'.cell? ⟨R, f, none⟩ = some (.slice (some ⟨g, 0, none⟩) l cap)) (go_keep) (fail)
        go_wp2
        go_roundw
        case rel =>
          exact ⟨f + 1, _, (hmb.out.next hlt).drew, (hk.out.set hmb.out.blk hmb.out.base 6 _).drew, fun i hi => (get_set_other _ 6 i (by omega) _).trans (hcs.out i hi)⟩
        case measure =>
          have m1 := fillOf_eq hmb.out
          have m2 := fillOf_eq (hmb.out.next hlt).drew
          rw [m1, m2]
          omega
      · have hge : 42 + (L : Int) ≤ (cap : Int) - (l : Int) := by omega
        have hd : decide ((cap : Int) - (l : Int) < 42 + (L : Int)) = false := by simp; omega
        go_wp2_with fail
        go_region_held3 (fun w' => w'.cell? ⟨C, 5, none⟩ = some (.slice (some ⟨R, 0, none⟩) row.length vc) ∧ w'.cell? ⟨C, 6, none⟩ = some (.int .i64 f) ∧ w'.cell? ⟨R, f, none⟩ = some (.slice (some ⟨g, 0, none⟩) l cap)) (go_keep) (fail)
        clear hd hw1
        have hne : ((f : Int) == (row.length : Int)) = false := by simp; omega
        go_wp2_with fail
        go_region_held3 (fun w' => w'.cell? ⟨C, 5, none⟩ = some (.slice (some ⟨R, 0, none⟩) row.length vc) ∧ w'.cell? ⟨C, 6, none⟩ = some (.int .i64 f)) (go_keep) (fail)
        clear hne
        go_wp2_with fail
        go_region_held3 (fun w' => w'.cell? ⟨C, 5, none⟩ = some (.slice (some ⟨R, 0, none⟩) row.length vc) ∧ w'.cell? ⟨C, 6, none⟩ = some (.int .i64 f) ∧ w'.cell? ⟨R, f, none⟩ = some (.slice (some ⟨g, 0, none⟩) l cap)) (go_keep) (fail)
        obtain ⟨v8, hv8⟩ := hmb.out.blk.there 8 (by decide)
        obtain ⟨v9, hv9⟩ := hmb.out.blk.there 9 (by decide)
        have c8 : wr.cell? ⟨C, 8, none⟩ = some v8 := (hmb.out.blk.cell 8).trans hv8
        have c9 : wr.cell? ⟨C, 9, none⟩ = some v9 := (hmb.out.blk.cell 9).trans hv9
        have f8 : wr.frozen? ⟨C, 8, none⟩ = false := hmb.out.blk.free 8
        have f9 : wr.frozen? ⟨C, 9, none⟩ = false := hmb.out.blk.free 9
        clear hv8 hv9
        go_wp2_with fail
        refine (auv_at B g (l + 32) cap (L * 2 + 1) _ (by omega) (by omega) _ _ (by exact own_of_block (HF.out.noted _ _).2.2.1 HF.out.hgs HF.out.hBg hcap (l + 32) (by omega)) (by have := Lib.uvarint_length64 (x := L * 2 + 1) (by omega); omega)).mono ?_
        rintro e W2 ⟨rfl, own2, gr2⟩
        obtain ⟨c5', c6', hRC, W3, n3, hr, ⟨vR, cR⟩, fR, c53, c63, c73, f73, hpost⟩ := tail_pack (cc := cc) HF.out hB (Nat.le_succ_of_le hmb.out.len_le) h.blk hk.out hcs.out HSRC.out HK.out (by omega) hL ⟨gr2.os, gr2.tape, gr2.output, gr2.size, gr2.block⟩ own2
        have HPOST := Lib.hid hpost
        clear hpost own2 gr2 c5 c6 c8 c9 f6 f8 f9 cr hmb hk hcs HF HSRC HK
        generalize l + 32 + (Lib.uvarint (L * 2 + 1)).length = n2 at *
        go_wp2_with fail
        go_region_held3 (fun w' => w'.cell? ⟨C, 5, none⟩ = some (.slice (some ⟨R, 0, none⟩) row.length vc) ∧ w'.cell? ⟨C, 6, none⟩ = some (.int .i64 f)) (go_keep)
          ((refine step_append_run (by rfl) _ _ _ _ (by rfl) _ _ (by rfl) (by rfl) _ _ hr ?_))
        go_wp2
        go_end0
        exact HPOST
    · obtain rfl : f = row.length := by omega
      obtain ⟨va, vc, hvb⟩ := hmb.out.form
      subst hvb
      have hd : decide ((row.length : Int) < (row.length : Int)) = false := by simp
      go_wp2_with fail
      go_quiet (fail)
      clear hd
      go_wp2_with fail
      go_region_held3 (fun w' => w'.cell? ⟨C, 5, none⟩ = some (.slice va row.length vc) ∧ w'.cell? ⟨C, 6, none⟩ = some (.int .i64 row.length)) (go_keep) (fail)
      go_wp2_with fail
      have HMB := Lib.hid (hmb.out.drewN nq).drew
      have HKW := Lib.hid (hk.out.drewN nq).drew
      clear hmb hk c5 c6 f6 hlt hf
      generalize (wr.drewN nq).drew = W at *
      have c5 : W.cell? ⟨C, 5, none⟩ = some (.slice va row.length vc) := (HMB.out.blk.cell 5).trans HMB.out.c5
      have hBW : B ≤ W.heap.size := Nat.le_trans hB HKW.out.below.size
      have c5a : ∀ (n : Nat) (o : Obj), ((W.drewN n).alloc o).cell? ⟨C, 5, none⟩ = some (.slice va row.length vc) := fun n o => (World.cell?_alloc_past _ _ _ HMB.out.blk.lt).trans c5
      have c5b : ∀ (n : Nat) (o1 o2 : Obj), (((W.drewN n).alloc o1).alloc o2).cell? ⟨C, 5, none⟩ = some (.slice va row.length vc) := fun n o1 o2 => (World.cell?_alloc_past _ _ _ (by have := HMB.out.blk.lt; simp; omega)).trans (c5a n o1)
      obtain ⟨i49, hi49, hz49, hs49, hb49⟩ := info49
      go_cut [] (fun wx => ∃ (v' : Value) (cs3 : Array Value) (r g' : Nat), Hid (MB wx B C cs3 v' (row ++ [.slice (some ⟨g', 0, none⟩) 0 r]) row.length held (held + 1)) ∧ Hid (Kept B C w wx) ∧ 42 + L ≤ r ∧ r ≤ 262144 ∧ Hid (∀ i, 8 ≤ i → cs3[i]? = cs1[i]?))
      case first =>
        go_region_law (first
          | (refine step_append_lies _ (by rfl) _ _ 39 (by rfl) B 49 i49 (.slice none 0 0) 1 24 Yba.underlying39 hi49 hz49 hs49 hb49 rfl (by decide) (.slice va row.length vc) row.length row (by rfl) (by exact HMB.out.own.alloc _ |>.alloc _) ⟨W.heap.size + 1, 0, none⟩ 1 1 [.slice (some ⟨W.heap.size, 0, none⟩) 0 _] (by rfl) (by rfl) (by exact new_cell W _) (by intro u hu; simp at hu; subst hu; rfl) (by decide) (by unfold maxLen; omega) (by omega) (by simp; exact Nat.le_trans hB (Nat.le_trans HKW.out.below.size (by omega))) _ rfl ?_; intro g2 cap2 w1 hown1 hgrow _ _; obtain ⟨cw1, fw1, hmb1, hk1⟩ := grow_pack HMB.out hBW (by assumption) ⟨hgrow.os, hgrow.tape, hgrow.output, hgrow.size, hgrow.block⟩ hown1; have HM1 := Lib.hid hmb1; have HK1 := Lib.hid hk1; clear hmb1 hk1 hown1 hgrow)
          | (go_simp; go_at_call 11; refine (next_any (HMB.out.drew) hl300 (42 + L) _ (by omega) (by omega)).mono ?_; rintro e w' ⟨r, k, rfl, hr1, hr2, rfl⟩; have hmk := run_make_bytes r hr2))
        all_goals
          go_wp2_with fail
          go_meet
          exact ⟨_, _, r, W.heap.size, HM1.out, HKW.out.trans HK1.out, hr1, hr2, fun i hi => get_set_other _ 5 i (by omega) _⟩
      case rest =>
        obtain ⟨v', cs3, r, g', hmb, hk, hr1, hr2, hcs3⟩ := hcut
        clear HMB HKW c5 c5a c5b hBW hi49 hz49 hs49 hb49
        have hflt : row.length < (row ++ [Value.slice (some ⟨g', 0, none⟩) 0 r]).length := by simp
        obtain ⟨R, vc2, g, l, cap, cur, bcur, hfd⟩ := Found.of hmb.out hflt
        have hlast : (row ++ [Value.slice (some ⟨g', 0, none⟩) 0 r])[row.length]? = some (.slice (some ⟨g', 0, none⟩) 0 r) := by simp
        have hlc2 := hfd.hv
        rw [hlast] at hlc2
        injection hlc2 with hlc2
        injection hlc2 with e1 e2 e3
        injection e1 with e1
        injection e1 with e1
        subst e1 e2 e3
        have HF := Lib.hid hfd
        obtain rfl := hfd.hvb
        have cr := hfd.rcell
        have hlen2 : (row ++ [Value.slice (some ⟨g', 0, none⟩) 0 r]).length = row.length + 1 := by simp
        have HLE := Lib.hid (show (row ++ [Value.slice (some ⟨g', 0, none⟩) 0 r]).length ≤ held + 1 from hmb.out.len_le)
        have c5 : wc.cell? ⟨C, 5, none⟩ = some (.slice (some ⟨R, 0, none⟩) (row ++ [Value.slice (some ⟨g', 0, none⟩) 0 r]).length vc2) := (hmb.out.blk.cell 5).trans hmb.out.c5
        have c6 : wc.cell? ⟨C, 6, none⟩ = some (.int .i64 row.length) := (hmb.out.blk.cell 6).trans hmb.out.c6
        have hcs4 := Lib.hid (fun i (hi : 8 ≤ i) => (hcs3.out i hi).trans (hcs.out i hi))
        clear hfd hlast
        generalize (row ++ [Value.slice (some ⟨g', 0, none⟩) 0 r]) = row2 at *
        obtain ⟨v8, hv8⟩ := hmb.out.blk.there 8 (by decide)
        obtain ⟨v9, hv9⟩ := hmb.out.blk.there 9 (by decide)
        have c8 : wc.cell? ⟨C, 8, none⟩ = some v8 := (hmb.out.blk.cell 8).trans hv8
        have c9 : wc.cell? ⟨C, 9, none⟩ = some v9 := (hmb.out.blk.cell 9).trans hv9
        have f8 : wc.frozen? ⟨C, 8, none⟩ = false := hmb.out.blk.free 8
        have f9 : wc.frozen? ⟨C, 9, none⟩ = false := hmb.out.blk.free 9
        clear hv8 hv9 hcs hcs3
        have hi1 : (0 : Int) ≤ (row.length : Int) := by omega
        have hi2 : (row.length : Int) < (row2.length : Int) := by omega
        have hi3 : (row.length : Int) < (row.length : Int) + 1 := by omega
        rw [hlen2] at c5
        have HL2 := Lib.hid hlen2
        clear hlen2
        go_wp2_with fail
        go_region_held3 (fun w' => w'.cell? ⟨C, 5, none⟩ = some (.slice (some ⟨R, 0, none⟩) (row.length + 1) vc2) ∧ w'.cell? ⟨C, 6, none⟩ = some (.int .i64 row.length) ∧ w'.cell? ⟨R, row.length, none⟩ = some (.slice (some ⟨g', 0, none⟩) 0 r)) (go_keep) (fail)
        go_wp2_with fail
        refine (auv_at B g' 32 r (L * 2 + 1) _ (by omega) (by omega) _ _ (by exact own_of_block (HF.out.noted (.int .u32 (row.length : Int)) (.int .u32 0)).2.2.1 HF.out.hgs HF.out.hBg hr2 32 (by omega)) (by have := Lib.uvarint_length64 (x := L * 2 + 1) (by omega); omega)).mono ?_
        rintro e W2 ⟨rfl, own2, gr2⟩
        have gr3 : ((wc.setCell ⟨C, 8, none⟩ (.int .u32 (row.length : Int))).setCell ⟨C, 9, none⟩ (.int .u32 ((0 : Nat) : Int))).grownBy W2 (some g') := ⟨gr2.os, gr2.tape, gr2.output, gr2.size, gr2.block⟩
        have own3 : W2.ownsRow B 5 1 (.slice (some ⟨g', 0, none⟩) (0 + 32 + (Lib.uvarint (L * 2 + 1)).length) r) (0 + 32 + (Lib.uvarint (L * 2 + 1)).length) (bcur.toList.take (0 + 32) ++ Lib.byteCells (Lib.uvarint (L * 2 + 1))) := by rw [Nat.zero_add]; exact own2
        obtain ⟨c5', c6', hRC, W3, n3, hr, ⟨vR, cR⟩, fR, c53, c63, c73, f73, hpost⟩ := tail_pack (cc := cc) HF.out hB HLE.out h.blk hk.out hcs4.out HSRC.out HK.out (by omega) hL gr3 own3
        have HPOST := Lib.hid hpost
        rw [Nat.zero_add] at hr
        clear hpost own2 gr2 gr3 own3 c5 c6 c8 c9 f8 f9 cr hmb hk hcs4 HF HSRC HK
        generalize 32 + (Lib.uvarint (L * 2 + 1)).length = n2 at *
        have hl2 : row2.length = row.length + 1 := HL2.out
        rw [hl2] at c5' c53
        clear hl2
        go_wp2_with fail
        go_region_held3 (fun w' => w'.cell? ⟨C, 5, none⟩ = some (.slice (some ⟨R, 0, none⟩) (row.length + 1) vc2) ∧ w'.cell? ⟨C, 6, none⟩ = some (.int .i64 row.length)) (go_keep)
          ((refine step_append_run (by rfl) _ _ _ _ (by rfl) _ _ (by rfl) (by rfl) _ _ hr ?_))
        go_wp2
        go_end0
        exact HPOST
end Go.Proofs.Ybulkahxy
