/-
  LawS1688BNoTrace: the walk.
-/
import Derived.Test.YbulkahxyTrace
namespace Go.Proofs.Ybulkahxy
open Go.RowKit

/-- What the round must know where no trace is set. -/
def NInv (cs : Array Value) (t : Bool) : Prop := cs[49]? = some (.pointer none) ∧ cs[53]? = some (.bool t)

theorem start_none (w : World) (ks : List Value) (cs : Array Value) (t : Bool) (hcs : cs.size = 55) (h5 : cs[5]? = some (.slice none 0 0)) (h6 : cs[6]? = some (.int .i64 0)) (h7 : cs[7]? = some (.int .i64 0)) (h49 : cs[49]? = some (.pointer none)) (h53 : cs[53]? = some (.bool t)) :
    Inv w ((w.alloc (.cells ks.toArray 24)).alloc (.cells cs 47)) (w.heap.size + 1) ks 0 cs (.slice none 0 0) [] 0 ∧ NInv cs t := by
  have s1 : (w.alloc (.cells ks.toArray 24)).heap.size = w.heap.size + 1 := by simp
  have hb : Below w.heap.size w (w.alloc (.cells ks.toArray 24)) := (Below.refl _ w).alloc (Nat.le_refl _) _
  have h := inv_start ks cs hb (heap_alloc_new w (.cells ks.toArray 24)) hcs h5 h6 h7
  rw [s1] at h
  exact ⟨h, h49, h53⟩

set_option maxHeartbeats 1600000 in
set_option maxRecDepth 100000 in
theorem none_walk (a : Option Addr) (n cap : Nat) (ss : Nat → ByteArray) (seg : ByteArray) (ks : List Value) (hks : IsRef ks) (t : Bool) (w : World) (hn : n ≤ maxLen) (hkeys : IsKeys w a n ss) (hss : ∀ i, i < n → (ss i).size ≤ maxLen) :
    Calls Yba.prog 4 #[.slice a n cap, .string seg, .agg ks.toArray, .bool t] w fun e w' => WalkPost w e w' := by
  unfold maxLen at hn hss
  have HKS := Lib.hid hks
  have HKEYS := Lib.hid hkeys
  have HSS := Lib.hid hss
  have hb0 : Below w.heap.size w (w.alloc (.cells ks.toArray 24)) := (Below.refl _ w).alloc (Nat.le_refl _) _
  have HB0 := Lib.hid hb0
  clear hks hkeys hss hb0
  by_cases h300 : n ≤ 300
  case neg =>
    go_enter Yba.func4, Yba.ntmps4
    go_wp2
    go_ret
    exact ⟨rfl, HB0.out⟩
  go_enter Yba.func4, Yba.ntmps4
  go_wp2
  go_loop [20] (fun i => ∃ k : Nat, k ≤ n ∧ i = .int .i64 k ∧ Hid (∀ j, j < k → (ss j).size ≤ 65536)) (fun i => n - (intOf i).toNat)
  case atStart => exact ⟨0, Nat.zero_le _, rfl, fun _ hj => absurd hj (Nat.not_lt_zero _)⟩
  case round =>
    obtain ⟨k, hk, rfl, hbef⟩ := hrel
    by_cases hlt : k < n
    · obtain ⟨b, off, rfl, c0⟩ := HKEYS.out.below HB0.out k hlt
      have hsk := HSS.out k hlt
      go_wp2
      · go_ret
        exact ⟨rfl, HB0.out⟩
      · have hle : ((ss k).size : Int) ≤ 65536 := by assumption
        go_round
        case rel => exact ⟨k + 1, by omega, by go_num, fun j hj => by
          by_cases e : j = k
          · subst e
            omega
          · exact hbef.out j (by omega)⟩
        case measure => simp [intOf]; omega
    · obtain rfl : k = n := by omega
      go_wp2
      clear HB0 hlt hk
      go_loopw [34] (fun i wr => ∃ (j : Nat) (cs : Array Value) (vb : Value) (row : List Value) (f : Nat), j ≤ k ∧ i = .int .i64 j ∧ Hid (Inv w wr (w.heap.size + 1) ks j cs vb row f) ∧ Hid (NInv cs t)) (fun i _ => k - (intOf i).toNat)
      case atStart => exact ⟨0, _, _, _, _, Nat.zero_le _, rfl, (start_none w ks _ t (by rfl) (by rfl) (by rfl) (by rfl) (by rfl) (by rfl)).1, (start_none w ks _ t (by rfl) (by rfl) (by rfl) (by rfl) (by rfl) (by rfl)).2⟩
      case round =>
        obtain ⟨j, cs, vb, row, f, hj, rfl, hinv, htr⟩ := hrel
        generalize w.heap.size + 1 = C at *
        by_cases hlt : j < k
        · obtain ⟨b, off, rfl, c0⟩ := HKEYS.out.below hinv.out.below j hlt
          have HSJ := Lib.hid (hbef.out j hlt)
          have HR := Lib.hid (range_block hinv.out.key)
          go_wp2_with (first
            | (refine wpList_load_mid rfl 24 _ rfl w.heap.size 0 rfl ks _ HR.out Yba.underlying24 rfl (info24.trans (by rw [HKS.out.1])) ?_)
            | (refine wpList_store_mid rfl 24 _ _ rfl wr.heap.size 0 ks.toArray rfl rfl (there_new wr _ 24 _ (by simp [HKS.out.1])) (info24.trans (by simp [HKS.out.1])) (all_oneCell_toArray HKS.out.one) ?_; refine Hid.out ?_))
          generalize hzs : (#[.int .u8 0, .int .u8 0, .int .u8 0, .int .u8 0, .int .u8 0, .int .u8 0, .int .u8 0, .int .u8 0, .int .u8 0, .int .u8 0, .int .u8 0, .int .u8 0, .int .u8 0, .int .u8 0, .int .u8 0, .int .u8 0, .int .u8 0, .int .u8 0, .int .u8 0, .int .u8 0, .int .u8 0, .int .u8 0, .int .u8 0, .int .u8 0, .int .u8 0, .int .u8 0, .int .u8 0, .int .u8 0, .int .u8 0, .int .u8 0, .int .u8 0, .int .u8 0] : Array Value) = zs
          have hz : zs.size = ks.length := by rw [← hzs, HKS.out.1]; rfl
          have h2 := block_filled wr zs 24 ks hz
          have hb2 := below_filled wr zs 24 ks
          obtain ⟨x0, hx0⟩ : ∃ x0, ks[0]? = some (.int .u8 x0) := by
            have hl : 0 < ks.length := by rw [HKS.out.1]; decide
            obtain ⟨x, hx⟩ := HKS.out.2 _ (List.getElem_mem hl)
            exact ⟨x, by rw [List.getElem?_eq_getElem hl, hx]⟩
          have hW2 := Lib.hid (show (wr.alloc (.cells zs 24)).setCells wr.heap.size 0 ks = (wr.alloc (.cells zs 24)).setCells wr.heap.size 0 ks from rfl)
          generalize hW2' : (wr.alloc (.cells zs 24)).setCells wr.heap.size 0 ks = W2 at *
          have cr0 : W2.cell? ⟨wr.heap.size, 0, none⟩ = some (.int .u8 x0) := (Lib.cell_of_heap h2 0).trans (by rw [List.getElem?_toArray]; exact hx0)
          have fr0 : W2.frozen? ⟨wr.heap.size, 0, none⟩ = false := Lib.frozen_of_heap h2 0
          have hcb := fun (w : World) (s : ByteArray) => Lib.run_convert_string_bytes (P := Yba.prog) w 9 49 5 s Yba.underlying9 Yba.underlying49 Yba.underlying5
          have hsz2 : (W2.setCell ⟨wr.heap.size, 0, none⟩ (.int .u8 ((x0 + (j : Int)) % 256))).heap.size = W2.heap.size := by simp
          have hpre := pre_of wr zs ks hz ((x0 + (j : Int)) % 256) (ss j) (W2.setCell ⟨wr.heap.size, 0, none⟩ (.int .u8 ((x0 + (j : Int)) % 256))) (by rw [hW2'])
          rw [hsz2] at hpre
          have HPRE := Lib.hid hpre
          have HR4 := Lib.hid (range_block hpre.ref)
          have HKT := Lib.hid (turned_ref HKS.out ((x0 + (j : Int)) % 256))
          clear hW2 hW2' hz h2 hb2 hzs hx0 hsz2 hpre
          generalize hkt : turned ks ((x0 + (j : Int)) % 256) = kt at *
          clear hkt
          refine Lib.hid ?_
          go_wp2_with (first
            | (refine wpList_load_mid rfl 24 _ rfl wr.heap.size 0 rfl kt _ HR4.out Yba.underlying24 rfl (info24.trans (by rw [HKT.out.1])) ?_))
          obtain ⟨hmb, hBW, hsrc⟩ := hinv.out.pre HPRE.out
          obtain ⟨h49, h53⟩ := htr.out
          refine (ckey_none w.heap.size C (ss j).size W2.heap.size _ (ss j).data.toList kt HKT.out cs vb row f j _ hmb hBW (Lib.size_eq _).symm HSJ.out (by omega) hsrc h49).mono ?_
          rintro e w5 hp
          obtain rfl := hp.1
          obtain ⟨cs5, vb5, row5, f5, off5, hmid, _, hrest⟩ := mid_none hinv.out HPRE.out hp
          have hn5 : NInv cs5 t := ⟨(hrest 49 (by decide)).trans h49, (hrest 53 (by decide)).trans h53⟩
          have c53 : w5.cell? ⟨C, 53, none⟩ = some (.bool t) := (hmid.at_.mb.blk.cell 53).trans hn5.2
          have c49 : w5.cell? ⟨C, 49, none⟩ = some (.pointer none) := (hmid.at_.mb.blk.cell 49).trans hn5.1
          have HMID := Lib.hid hmid
          have HTR := Lib.hid hn5
          have HR5 := Lib.hid (range_block hmid.ref)
          clear hmid hn5 hp hmb hBW hsrc h49 h53 htr hinv HPRE HR4 HR cr0 fr0 hcb c0 hrest
          go_wp2_with (first
            | (refine wpList_load_mid rfl 24 _ rfl wr.heap.size 0 rfl kt _ HR5.out Yba.underlying24 rfl (info24.trans (by rw [HKT.out.1])) ?_))
          refine (rec_at w.heap.size C cs5 vb5 row5 f5 off5 (j + 1) _ (by omega) _ kt (ss j) w5 HKT.out HMID.out.at_ rfl HSJ.out (by omega)).mono ?_
          rintro e W6 ⟨rfl, nn, hW6⟩
          obtain ⟨hi6, hb6⟩ := HMID.out.next hW6
          have HI6 := Lib.hid hi6
          clear hW6 hi6 hb6 HMID HR5 c53 c49
          go_wp2_with fail
          go_roundw
          case rel => exact ⟨j + 1, cs5, vb5, row5, f5, by omega, by go_num, HI6, HTR⟩
          case measure => simp [intOf]; omega
        · obtain rfl : j = k := by omega
          have HBL := Lib.hid hinv.out.below
          clear hinv htr
          go_wp2
          go_ret
          exact ⟨rfl, HBL.out⟩
end Go.Proofs.Ybulkahxy
