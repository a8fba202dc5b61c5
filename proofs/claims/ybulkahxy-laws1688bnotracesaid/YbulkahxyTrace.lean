/-
  LawS1688BTrace: the walk.
-/
import Derived.Test.YbulkahxyRound
namespace Go.Proofs.Ybulkahxy
open Go.RowKit

/-- The keys, in memory. -/
def IsKeys (w : World) (a : Option Addr) (n : Nat) (ss : Nat → ByteArray) : Prop := n = 0 ∨ ∃ b off, a = some ⟨b, off, none⟩ ∧ b < w.heap.size ∧ ∀ i, i < n → w.cell? ⟨b, off + i, none⟩ = some (.string (ss i))

def WalkPost (w : World) (e : Ending) (w' : World) : Prop := e = .returned (.bool true) ∧ Below w.heap.size w w'

theorem IsKeys.below {w w' : World} {a : Option Addr} {n : Nat} {ss : Nat → ByteArray} (h : IsKeys w a n ss) (hb : Below w.heap.size w w') (i : Nat) (hi : i < n) : ∃ b off, a = some ⟨b, off, none⟩ ∧ w'.cell? ⟨b, off + i, none⟩ = some (.string (ss i)) := by
  rcases h with h0 | ⟨b, off, rfl, hlt, hc⟩
  · omega
  · exact ⟨b, off, rfl, (hb.cell (p := ⟨b, off + i, none⟩) hlt).trans (hc i hi)⟩

/-- What the round must know of the trace. -/
def TInv (wr : World) (T : Nat) (cs : Array Value) (seg : ByteArray) : Prop := cs[49]? = some (.pointer (some ⟨T, 0, none⟩)) ∧ cs[51]? = some (.string seg) ∧ ∃ ct, wr.heap[T]? = some (.cells ct 30 (0, 0)) ∧ ct.size = 40

theorem inv_start {w w1 : World} (ks : List Value) (cs : Array Value) (hb : Below w.heap.size w w1) (hk : w1.heap[w.heap.size]? = some (.cells ks.toArray 24 (0, 0))) (hcs : cs.size = 55) (h5 : cs[5]? = some (.slice none 0 0)) (h6 : cs[6]? = some (.int .i64 0)) (h7 : cs[7]? = some (.int .i64 0)) :
    Inv w (w1.alloc (.cells cs 47)) w1.heap.size ks 0 cs (.slice none 0 0) [] 0 :=
  ⟨⟨⟨heap_alloc_new w1 _, hcs⟩, hb.size, h5, h6, h7, ⟨rfl, .inl ⟨rfl, rfl⟩⟩, (fun _ hv => by cases hv), Nat.le_refl _, Nat.le_refl _⟩, hb.alloc hb.size _, (Below.heap_alloc w1 _ _ (Lib.lt_of_heap hk)).trans hk⟩

theorem start_trace (w : World) (ks : List Value) (ct cs : Array Value) (seg : ByteArray) (hct : ct.size = 40) (hcs : cs.size = 55) (h5 : cs[5]? = some (.slice none 0 0)) (h6 : cs[6]? = some (.int .i64 0)) (h7 : cs[7]? = some (.int .i64 0)) (h49 : cs[49]? = some (.pointer (some ⟨w.heap.size + 1, 0, none⟩))) (h51 : cs[51]? = some (.string seg)) :
    Inv w (((w.alloc (.cells ks.toArray 24)).alloc (.cells ct 30)).alloc (.cells cs 47)) (w.heap.size + 1 + 1) ks 0 cs (.slice none 0 0) [] 0 ∧ TInv (((w.alloc (.cells ks.toArray 24)).alloc (.cells ct 30)).alloc (.cells cs 47)) (w.heap.size + 1) cs seg := by
  have s1 : (w.alloc (.cells ks.toArray 24)).heap.size = w.heap.size + 1 := by simp
  have s2 : ((w.alloc (.cells ks.toArray 24)).alloc (.cells ct 30)).heap.size = w.heap.size + 1 + 1 := by simp
  have hk := heap_alloc_new w (.cells ks.toArray 24)
  have hT := heap_alloc_new (w.alloc (.cells ks.toArray 24)) (.cells ct 30)
  have hb : Below w.heap.size w ((w.alloc (.cells ks.toArray 24)).alloc (.cells ct 30)) := ((Below.refl _ w).alloc (Nat.le_refl _) _).alloc (by rw [s1]; omega) _
  have h := inv_start ks cs hb ((Below.heap_alloc _ _ _ (by rw [s1]; omega)).trans hk) hcs h5 h6 h7
  rw [s2] at h
  refine ⟨h, h49, h51, ct, ?_, hct⟩
  rw [s1] at hT
  exact (Below.heap_alloc _ _ _ (by rw [s2]; omega)).trans hT

theorem there_new (w : World) (zs : Array Value) (t : TypeId) (n : Nat) (hz : zs.size = n) : (w.alloc (.cells zs t)).there w.heap.size 0 n := fun j hj => by
  have hg := heap_alloc_new w (.cells zs t)
  refine ⟨?_, Lib.frozen_of_heap hg _⟩
  rw [Lib.cell_of_heap hg, Nat.zero_add, Array.getElem?_eq_getElem (by omega)]
  rfl

theorem rec_at (B C : Nat) (cs : Array Value) (vb : Value) (row : List Value) (f off held : Nat) (X : Int) (hX : X = (held : Int)) (kb : List UInt8) (ks : List Value) (k : ByteArray) (w : World) (hks : IsRef ks) (h : RecAt w B C cs vb row f off held kb ks) (hk : k.data.toList = kb) (hL : k.size ≤ 65536) (hh : held ≤ 301) :
    Calls Yba.prog 6 #[.pointer (some ⟨C, 0, none⟩), .string k, .agg ks.toArray, .int .i64 X] w fun e w' => RecPost w ks e w' := by
  subst hX
  exact rec_any B C cs vb row f off held kb ks k w hks h hk hL hh

theorem trace_mid {w wr W w5 : World} {C T k r gs : Nat} {ks kt : List Value} {kb : List UInt8} {cs : Array Value} {vb : Value} {row : List Value} {f : Nat} {seg : ByteArray} {t : Bool} {e : Ending} (h : Inv w wr C ks k cs vb row f) (ht : TInv wr T cs seg) (hBT : w.heap.size ≤ T) (p : Pre wr W r kt gs kb) (hkt : kt.length = 32) (hp : TracePost W w.heap.size C T cs k kb kt t e w5) :
    e = .returned (.tuple #[]) ∧ ∃ cs5 vb5 row5 f5 off, Mid w w5 C ks kt r k kb cs5 vb5 row5 f5 off ∧ w5.cell? ⟨C, 53, none⟩ = some (.bool t) ∧ w5.cell? ⟨T, 38, none⟩ = some (.bool t) ∧ TInv w5 T cs5 seg := by
  obtain ⟨w2, hkp, rfl⟩ := hp
  obtain rfl := hkp.1
  obtain ⟨cs5, vb5, row5, f5, off, hmid, hkept, hrest⟩ := mid_none h p hkp
  obtain ⟨h49, h51, ct, hT, hct⟩ := ht
  obtain ⟨hmb, _, _⟩ := h.pre p
  have hT2 := hkept.other hmb.blk ((p.below.block _ (Lib.lt_of_heap hT)).trans hT) (by decide) (by decide) (by decide)
  have hTC : T ≠ C := blocks_ne hT2 hmid.at_.mb.blk.1 (by decide)
  have hfl := hmid.flag hT2 hBT hkt (.bool t) (.bool t)
  have hT3 := Lib.heap_setCell_same (i := 38) ((Below.heap_setCell w2 ⟨C, 53, none⟩ (.bool t) T hTC).trans hT2) (.bool t)
  refine ⟨rfl, _, _, _, _, _, hfl, (hfl.at_.mb.blk.cell 53).trans (get_set_same hmid.at_.mb.blk.2 53 (by decide) _), ?_, ?_, ?_, _, hT3, ?_⟩
  · rw [Lib.cell_of_heap hT3, Array.getElem?_setIfInBounds_self_of_lt (by omega)]
  · exact (get_set_other _ 53 49 (by decide) _).trans ((hrest 49 (by decide)).trans h49)
  · exact (get_set_other _ 53 51 (by decide) _).trans ((hrest 51 (by decide)).trans h51)
  · rw [Array.size_setIfInBounds]
    exact hct

theorem TInv.fresh {w5 W6 : World} {T : Nat} {cs : Array Value} {seg : ByteArray} (h : TInv w5 T cs seg) (hb : Below w5.heap.size w5 W6) : TInv W6 T cs seg := by
  obtain ⟨h1, h2, ct, hT, hct⟩ := h
  exact ⟨h1, h2, ct, (hb.block _ (Lib.lt_of_heap hT)).trans hT, hct⟩

set_option maxHeartbeats 1600000 in
set_option maxRecDepth 100000 in
theorem trace_walk (a : Option Addr) (n cap : Nat) (ss : Nat → ByteArray) (seg : ByteArray) (ks : List Value) (hks : IsRef ks) (w : World) (hn : n ≤ maxLen) (hkeys : IsKeys w a n ss) (hss : ∀ i, i < n → (ss i).size ≤ maxLen) :
    Calls Yba.prog 3 #[.slice a n cap, .string seg, .agg ks.toArray] w fun e w' => WalkPost w e w' := by
  unfold maxLen at hn hss
  have HKS := Lib.hid hks
  have HKEYS := Lib.hid hkeys
  have HSS := Lib.hid hss
  have hb0 : Below w.heap.size w (w.alloc (.cells ks.toArray 24)) := (Below.refl _ w).alloc (Nat.le_refl _) _
  have HB0 := Lib.hid hb0
  clear hks hkeys hss hb0
  by_cases h300 : n ≤ 300
  case neg =>
    go_enter Yba.func3, Yba.ntmps3
    go_wp2
    go_ret
    exact ⟨rfl, HB0.out⟩
  go_enter Yba.func3, Yba.ntmps3
  go_wp2
  go_loop [20] (fun i => ∃ k : Nat, k ≤ n ∧ i = .int .i64 k ∧ Hid (∀ j, j < k → (ss j).size ≤ 65536)) (fun i => n - (intOf i).toNat)
  case atStart => exact ⟨0, Nat.zero_le _, rfl, fun _ hj => absurd hj (Nat.not_lt_zero _)⟩
  case round =>
    obtain ⟨k, hk, rfl, hbef⟩ := hrel
    by_cases hlt : k < n
    · obtain ⟨b, off, rfl, c0⟩ := HKEYS.out.below HB0.out k hlt
      have hsk := HSS.out k hlt
      go_wp2
      · go_ret
        exact ⟨rfl, HB0.out⟩
      · have hle : ((ss k).size : Int) ≤ 65536 := by assumption
        go_round
        case rel => exact ⟨k + 1, by omega, by go_num, fun j hj => by
          by_cases e : j = k
          · subst e
            omega
          · exact hbef.out j (by omega)⟩
        case measure => simp [intOf]; omega
    · obtain rfl : k = n := by omega
      go_wp2
      clear HB0 hlt hk
      go_loopw [36] (fun i wr => ∃ (j : Nat) (cs : Array Value) (vb : Value) (row : List Value) (f : Nat), j ≤ k ∧ i = .int .i64 j ∧ Hid (Inv w wr (w.heap.size + 1 + 1) ks j cs vb row f) ∧ Hid (TInv wr (w.heap.size + 1) cs seg)) (fun i _ => k - (intOf i).toNat)
      case atStart => exact ⟨0, _, _, _, _, Nat.zero_le _, rfl, (start_trace w ks _ _ seg (by rfl) (by rfl) (by rfl) (by rfl) (by rfl) (by rfl) (by rfl)).1, (start_trace w ks _ _ seg (by rfl) (by rfl) (by rfl) (by rfl) (by rfl) (by rfl) (by rfl)).2⟩
      case round =>
        obtain ⟨j, cs, vb, row, f, hj, rfl, hinv, htr⟩ := hrel
        have hT0 : w.heap.size ≤ w.heap.size + 1 := by omega
        generalize w.heap.size + 1 + 1 = C at *
        generalize w.heap.size + 1 = T at *
        by_cases hlt : j < k
        · obtain ⟨b, off, rfl, c0⟩ := HKEYS.out.below hinv.out.below j hlt
          have HSJ := Lib.hid (hbef.out j hlt)
          have HR := Lib.hid (range_block hinv.out.key)
          go_wp2_with (first
            | (refine wpList_load_mid rfl 24 _ rfl w.heap.size 0 rfl ks _ HR.out Yba.underlying24 rfl (info24.trans (by rw [HKS.out.1])) ?_)
            | (refine wpList_store_mid rfl 24 _ _ rfl wr.heap.size 0 ks.toArray rfl rfl (there_new wr _ 24 _ (by simp [HKS.out.1])) (info24.trans (by simp [HKS.out.1])) (all_oneCell_toArray HKS.out.one) ?_; refine Hid.out ?_))
          generalize hzs : (#[.int .u8 0, .int .u8 0, .int .u8 0, .int .u8 0, .int .u8 0, .int .u8 0, .int .u8 0, .int .u8 0, .int .u8 0, .int .u8 0, .int .u8 0, .int .u8 0, .int .u8 0, .int .u8 0, .int .u8 0, .int .u8 0, .int .u8 0, .int .u8 0, .int .u8 0, .int .u8 0, .int .u8 0, .int .u8 0, .int .u8 0, .int .u8 0, .int .u8 0, .int .u8 0, .int .u8 0, .int .u8 0, .int .u8 0, .int .u8 0, .int .u8 0, .int .u8 0] : Array Value) = zs
          have hz : zs.size = ks.length := by rw [← hzs, HKS.out.1]; rfl
          have h2 := block_filled wr zs 24 ks hz
          have hb2 := below_filled wr zs 24 ks
          obtain ⟨x0, hx0⟩ : ∃ x0, ks[0]? = some (.int .u8 x0) := by
            have hl : 0 < ks.length := by rw [HKS.out.1]; decide
            obtain ⟨x, hx⟩ := HKS.out.2 _ (List.getElem_mem hl)
            exact ⟨x, by rw [List.getElem?_eq_getElem hl, hx]⟩
          have hW2 := Lib.hid (show (wr.alloc (.cells zs 24)).setCells wr.heap.size 0 ks = (wr.alloc (.cells zs 24)).setCells wr.heap.size 0 ks from rfl)
          generalize hW2' : (wr.alloc (.cells zs 24)).setCells wr.heap.size 0 ks = W2 at *
          have cr0 : W2.cell? ⟨wr.heap.size, 0, none⟩ = some (.int .u8 x0) := (Lib.cell_of_heap h2 0).trans (by rw [List.getElem?_toArray]; exact hx0)
          have fr0 : W2.frozen? ⟨wr.heap.size, 0, none⟩ = false := Lib.frozen_of_heap h2 0
          have hcb := fun (w : World) (s : ByteArray) => Lib.run_convert_string_bytes (P := Yba.prog) w 9 49 5 s Yba.underlying9 Yba.underlying49 Yba.underlying5
          have hsz2 : (W2.setCell ⟨wr.heap.size, 0, none⟩ (.int .u8 ((x0 + (j : Int)) % 256))).heap.size = W2.heap.size := by simp
          have hpre := pre_of wr zs ks hz ((x0 + (j : Int)) % 256) (ss j) (W2.setCell ⟨wr.heap.size, 0, none⟩ (.int .u8 ((x0 + (j : Int)) % 256))) (by rw [hW2'])
          rw [hsz2] at hpre
          have HPRE := Lib.hid hpre
          have HR4 := Lib.hid (range_block hpre.ref)
          have HKT := Lib.hid (turned_ref HKS.out ((x0 + (j : Int)) % 256))
          clear hW2 hW2' hz h2 hb2 hzs hx0 hsz2 hpre
          generalize hkt : turned ks ((x0 + (j : Int)) % 256) = kt at *
          clear hkt
          generalize ht : ((ss j).toList == seg.toList) = t
          refine Lib.hid ?_
          go_wp2_with (first
            | (refine wpList_load_mid rfl 24 _ rfl wr.heap.size 0 rfl kt _ HR4.out Yba.underlying24 rfl (info24.trans (by rw [HKT.out.1])) ?_))
          obtain ⟨hmb, hBW, hsrc⟩ := hinv.out.pre HPRE.out
          obtain ⟨h49, h51, ct, hT, hct⟩ := htr.out
          refine (ckey_trace w.heap.size C T (ss j).size W2.heap.size _ (ss j).data.toList kt HKT.out cs ct seg vb row f j _ hmb hBW (Lib.size_eq _).symm HSJ.out (by omega) hsrc h49 h51 ((HPRE.out.below.block _ (Lib.lt_of_heap hT)).trans hT) hct (ss j) rfl t ht).mono ?_
          rintro e w5 hp
          obtain ⟨rfl, cs5, vb5, row5, f5, off5, hmid, c53, c38, htr5⟩ := trace_mid hinv.out htr.out hT0 HPRE.out HKT.out.1 hp
          have HMID := Lib.hid hmid
          have HTR := Lib.hid htr5
          have HR5 := Lib.hid (range_block hmid.ref)
          clear hmid htr5 hp hmb hBW hsrc h49 h51 hT hct htr hinv HPRE HR4 HR cr0 fr0 hcb c0
          go_wp2_with (first
            | (refine wpList_load_mid rfl 24 _ rfl wr.heap.size 0 rfl kt _ HR5.out Yba.underlying24 rfl (info24.trans (by rw [HKT.out.1])) ?_))
          refine (rec_at w.heap.size C cs5 vb5 row5 f5 off5 (j + 1) _ (by omega) _ kt (ss j) w5 HKT.out HMID.out.at_ rfl HSJ.out (by omega)).mono ?_
          rintro e W6 ⟨rfl, nn, hW6⟩
          obtain ⟨hi6, hb6⟩ := HMID.out.next hW6
          have HI6 := Lib.hid hi6
          have HT6 := Lib.hid (HTR.out.fresh hb6)
          clear hW6 hi6 hb6 HMID HTR HR5 c53 c38
          go_wp2_with fail
          go_roundw
          case rel => exact ⟨j + 1, cs5, vb5, row5, f5, by omega, by go_num, HI6, HT6⟩
          case measure => simp [intOf]; omega
        · obtain rfl : j = k := by omega
          have HBL := Lib.hid hinv.out.below
          clear hinv htr
          go_wp2
          go_ret
          exact ⟨rfl, HBL.out⟩
end Go.Proofs.Ybulkahxy
