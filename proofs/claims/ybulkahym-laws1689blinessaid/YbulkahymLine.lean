/-
  (*generator).line and operand: their contracts over a generator that the call has made.
-/
import Derived.Test.YbulkahymBytes
import Derived.Lib.Hide
namespace Go.Proofs.Ybulkahym
open Go.RowKit

/-- n tabs. -/
def tabs (n : Nat) : List UInt8 := List.replicate n 9
theorem tabs_length (n : Nat) : (tabs n).length = n := by simp [tabs]
theorem tabs_succ (n : Nat) : tabs (n + 1) = tabs n ++ [9] := by simp [tabs, List.replicate_succ']

/-- A line: as many tabs as the depth, s, a line feed. -/
def lineOf (depth : Int) (s : ByteArray) : List UInt8 := tabs depth.toNat ++ s.data.toList ++ [10]
theorem lineOf_length (depth : Int) (s : ByteArray) : (lineOf depth s).length = depth.toNat + s.size + 1 := by simp [lineOf, tabs_length]; omega

set_option maxHeartbeats 800000 in
set_option maxRecDepth 100000 in
theorem line_any (B G : Nat) (bs : List UInt8) (s name : ByteArray) (depth : Int) (w : World) (h : Gen w B G bs name depth) (hB : B ≤ w.heap.size) (hs : 0 < s.size) (hd : depth ≤ 1024) (hd' : -9223372036854775808 ≤ depth) (hlen : bs.length + s.size ≤ 140737488300000) :
    Calls Yba.prog 11 #[.pointer (some ⟨G, 0, none⟩), .string s] w fun e w' => e = .returned (.tuple #[]) ∧ Gen w' B G (bs ++ lineOf depth s) name depth ∧ Below B w w' := by
  obtain ⟨hBG, v, hG, ho⟩ := id h
  have c4 : w.cell? ⟨G, 4, none⟩ = some (.int .i64 depth) := Lib.cell_of_heap hG 4
  have HG : Hid (Gen w B G bs name depth) := h
  clear h hG ho
  go_enter Yba.func11, Yba.ntmps11
  go_wp2
  go_loopw [8] (fun i wr => ∃ k : Nat, k ≤ depth.toNat ∧ i = .int .i64 k ∧ Hid (Gen wr B G (bs ++ tabs k) name depth) ∧ Hid (Below B w wr)) (fun i _ => depth.toNat - (intOf i).toNat)
  case atStart => exact ⟨0, Nat.zero_le _, rfl, by simpa [tabs] using HG, Below.refl _ _⟩
  case round =>
    obtain ⟨k, hk, rfl, hgen, hbel⟩ := hrel
    clear c4 HG
    by_cases hlt : (k : Int) < depth
    · obtain ⟨-, v1, hG, ho⟩ := hgen.out
      have hBr : B ≤ wr.heap.size := Nat.le_trans hB hbel.out.size
      have c0 : wr.cell? ⟨G, 0, none⟩ = some v1 := Lib.cell_of_heap hG 0
      obtain ⟨g, cap, w1, hr, ho1, hg1⟩ := append_byte wr B v1 _ ho hBr 9 9 rfl (by simp [tabs_length]; omega)
      obtain ⟨cv, fv, gen2, bel2⟩ := Gen.stored hBG (by simp; omega) ((Below.heap_alloc wr (.cells #[.int .u8 9] 5) G (Lib.lt_of_heap hG)).trans hG) (ho.alloc _) hg1 ho1
      rw [List.append_assoc, ← tabs_succ] at gen2
      have HG2 : Hid (Gen (w1.setCell ⟨G, 0, none⟩ (.slice (some ⟨g, 0, none⟩) ((bs ++ tabs k).length + 1) cap)) B G (bs ++ tabs (k + 1)) name depth) := gen2
      have HB2 : Hid (Below B w (w1.setCell ⟨G, 0, none⟩ (.slice (some ⟨g, 0, none⟩) ((bs ++ tabs k).length + 1) cap))) := hbel.out.trans (((Below.refl B wr).alloc hBr _).trans bel2)
      generalize (bs ++ tabs k).length + 1 = m1 at *
      clear hG ho ho1 hg1 gen2 bel2 hgen hbel
      go_wp2_with (at_builtin; refine Lib.wpList_append_run _ rfl _ _ _ _ rfl _ _ rfl rfl _ _ hr ?_)
      go_roundw
      case rel => exact ⟨k + 1, by omega, by go_num, HG2, HB2⟩
      case measure => simp [intOf]; omega
    · have e : k = depth.toNat := by omega
      subst e
      obtain ⟨-, v1, hG, ho⟩ := hgen.out
      have hBr : B ≤ wr.heap.size := Nat.le_trans hB hbel.out.size
      have c0 : wr.cell? ⟨G, 0, none⟩ = some v1 := Lib.cell_of_heap hG 0
      obtain ⟨g, cap, w1, hr, ho1, hg1⟩ := append_str wr B v1 _ ho hBr s hs (by simp [tabs_length]; omega)
      obtain ⟨cv, fv, gen2, bel2⟩ := Gen.stored hBG hBr hG ho hg1 ho1
      have hl2 : (bs ++ tabs depth.toNat).length + s.size = bs.length + depth.toNat + s.size := by simp [tabs_length]
      have hl3 : (bs ++ tabs depth.toNat ++ s.data.toList).length = bs.length + depth.toNat + s.size := by rw [List.length_append, ← Lib.size_eq, hl2]
      have hB2 : B ≤ (w1.setCell ⟨G, 0, none⟩ (.slice (some ⟨g, 0, none⟩) ((bs ++ tabs depth.toNat).length + s.size) cap)).heap.size := Nat.le_trans hBr bel2.size
      have c02 : (w1.setCell ⟨G, 0, none⟩ (.slice (some ⟨g, 0, none⟩) ((bs ++ tabs depth.toNat).length + s.size) cap)).cell? ⟨G, 0, none⟩ = some (.slice (some ⟨g, 0, none⟩) ((bs ++ tabs depth.toNat).length + s.size) cap) := World.cell?_setCell_same _ _ _ cv
      have bel3 := hbel.out.trans bel2
      clear hG ho ho1 hg1 hgen hbel bel2
      generalize hmm : (bs ++ tabs depth.toNat).length + s.size = m1 at *
      generalize hW : w1.setCell ⟨G, 0, none⟩ (.slice (some ⟨g, 0, none⟩) m1 cap) = W2 at *
      obtain ⟨-, v2, hG2, ho2⟩ := gen2
      have ev : v2 = .slice (some ⟨g, 0, none⟩) m1 cap := Option.some.inj ((Lib.cell_of_heap hG2 0).symm.trans c02)
      subst ev
      obtain ⟨g2, cap2, w3, hr2, ho3, hg3⟩ := append_byte W2 B _ _ ho2 hB2 10 10 rfl (by rw [hl3]; omega)
      obtain ⟨cv3, fv3, gen4, bel4⟩ := Gen.stored hBG (by simp; omega) ((Below.heap_alloc W2 (.cells #[.int .u8 10] 5) G (Lib.lt_of_heap hG2)).trans hG2) (ho2.alloc _) hg3 ho3
      have efin : bs ++ tabs depth.toNat ++ s.data.toList ++ [10] = bs ++ lineOf depth s := by simp [lineOf]
      rw [efin] at gen4
      have HG4 := Lib.hid gen4
      have HB4 := Lib.hid (bel3.trans (((Below.refl B W2).alloc hB2 _).trans bel4))
      clear hG2 ho2 ho3 hg3 gen4 bel4 bel3 efin hl2 hmm
      generalize (bs ++ tabs depth.toNat ++ s.data.toList).length + 1 = m2 at *
      clear hl3
      go_wp2_with (at_builtin; refine Lib.wpList_append_run _ rfl _ _ _ _ rfl _ _ rfl rfl _ _ hr ?_; refine Hid.out ?_)
      refine Lib.hid ?_
      clear hr
      go_wp2_with (at_builtin; refine Lib.wpList_append_run _ rfl _ _ _ _ rfl _ _ rfl rfl _ _ hr2 ?_; refine Hid.out ?_)
      refine Lib.hid ?_
      clear hr2
      go_wp2
      go_end0
      exact ⟨rfl, HG4, HB4⟩
end Go.Proofs.Ybulkahym
