/-
  encoding/binary.AppendUvarint onto a row of the call's own that has room: it stays where it lies; nothing else turns. (After the guide's Shelf/Bin/AppendUvarint, with the exact frame.)
-/
import Derived.Test.YbulkahxyRows
import Derived.WalkKit
import Derived.WalkSpells
import Derived.WalkLawsBesides
import Derived.Lib.VarintMem
import Derived.Lib.Slices
import Derived.Lib.Hide
namespace Go.Proofs.Ybulkahxy
open Go.RowKit

theorem grown_trans {a b c : World} {row : Option Nat} (h : a.grownBy b row) (k : b.grownBy c row) : a.grownBy c row :=
  ⟨k.os.trans h.os, k.tape.trans h.tape, k.output.trans h.output, Nat.le_trans h.size k.size, fun i hi hne => (k.block i (Nat.lt_of_lt_of_le hi h.size) hne).trans (h.block i hi hne)⟩

theorem info5 : ∃ i, Yba.prog.info? 5 = some i ∧ i.zero = some (.int .u8 0) ∧ i.size = 1 ∧ i.bytes = 1 := by
  have h : (Yba.prog.info? 5).map (fun i => (i.size, i.bytes)) = some (1, 1) := by kernel_rfl
  have hz : (Yba.prog.info? 5).map (·.zero) = some (some (.int .u8 0)) := by kernel_rfl
  cases hq : Yba.prog.info? 5 with
  | none => rw [hq] at h; cases h
  | some i =>
    rw [hq] at h hz
    simp at h hz
    exact ⟨i, rfl, hz, h.1, h.2⟩

set_option maxHeartbeats 1600000 in
set_option maxRecDepth 100000 in
theorem auv_room (B g n cap x : Nat) (hx : x < 18446744073709551616) (xs : List Value) (w : World) (hown : w.ownsRow B 5 1 (.slice (some ⟨g, 0, none⟩) n cap) n xs) (hroom : n + (Lib.uvarint x).length ≤ cap) :
    Calls Yba.prog 12 #[.slice (some ⟨g, 0, none⟩) n cap, .int .u64 x] w fun e w' => e = .returned (.slice (some ⟨g, 0, none⟩) (n + (Lib.uvarint x).length) cap) ∧
      w'.ownsRow B 5 1 (.slice (some ⟨g, 0, none⟩) (n + (Lib.uvarint x).length) cap) (n + (Lib.uvarint x).length) (xs ++ Lib.byteCells (Lib.uvarint x)) ∧ w.grownBy w' (some g) := by
  obtain ⟨i0, hi, hz0, hz1, hz2⟩ := info5
  have hlen := Lib.uvarint_length64 hx
  go_enter Yba.func12, Yba.ntmps12
  go_wp2
  go_loopw [0, 1] (fun vb vx wr => ∃ (y : Nat) (pre : List UInt8), vx = .int .u64 y ∧ y ≤ x ∧ Lib.uvarint x = pre ++ Lib.uvarint y ∧ vb = .slice (some ⟨g, 0, none⟩) (n + pre.length) cap ∧ wr.ownsRow B 5 1 (.slice (some ⟨g, 0, none⟩) (n + pre.length) cap) (n + pre.length) (xs ++ Lib.byteCells pre) ∧ w.grownBy wr (some g))
    (fun _ vx _ => (intOf vx).toNat)
  case atStart => exact ⟨x, [], rfl, Nat.le_refl _, rfl, rfl, by simpa [Lib.byteCells] using hown, World.grownBy.refl _ _⟩
  case round =>
    obtain ⟨y, pre, rfl, hy, hsplit, rfl, hown1, hnx⟩ := hrel
    have hpl : pre.length + (Lib.uvarint y).length = (Lib.uvarint x).length := by
      have h2 := congrArg List.length hsplit
      rw [List.length_append] at h2
      omega
    have hyp := Lib.uvarint_pos y
    have HS := Lib.hid hsplit
    clear hsplit
    by_cases h128 : 128 ≤ y
    · have hor : bits .or .u8 ((y : Int) % 256) 128 = ((y % 128 + 128 : Nat) : Int) := by
        rw [Lib.u8_or128_any _ (by omega) (by omega)]
        omega
      go_wp2_with (at_builtin; refine wpList_append_fits _ rfl _ _ 49 rfl B 5 i0 1 Yba.underlying49 hi hz1 g (n + pre.length) cap _ rfl (hown1.alloc _) ⟨wr.heap.size, 0, none⟩ 1 1 [Value.int .u8 ((y % 128 + 128 : Nat) : Int)] rfl rfl ?c1 ?c2 ?c3 ?_)
      case c1 =>
        intro j u hj
        match j, hj with
        | 0, hj => simp at hj; subst hj; simp [Addr.add]
      case c2 => intro u hu; simp at hu; subst hu; rfl
      case c3 => omega
      intro w1 hown' hgrow
      go_wp2
      go_roundw
      case rel =>
        refine ⟨y / 128, pre ++ [(y % 128 + 128).toUInt8], by go_num, by omega, by rw [HS.out, Lib.uvarint_big h128]; simp, by simp [Nat.add_assoc], ?_, grown_trans hnx (grown_trans (World.grownBy_alloc _ _ _) hgrow)⟩
        have ec : ((y % 128 + 128 : Nat) : Int) = (y : Int) % 128 + 128 := by omega
        rw [Lib.byteCells_snoc pre (by omega), List.length_append, List.length_singleton, ← Nat.add_assoc, ec]
        exact hown'
      case measure => simp [intOf]; omega
    · have hsm : Lib.uvarint y = [y.toUInt8] := Lib.uvarint_small (by omega)
      go_wp2_with (at_builtin; refine wpList_append_fits _ rfl _ _ 49 rfl B 5 i0 1 Yba.underlying49 hi hz1 g (n + pre.length) cap _ rfl (hown1.alloc _) ⟨wr.heap.size, 0, none⟩ 1 1 [Value.int .u8 (y : Int)] rfl rfl ?c1 ?c2 ?c3 ?_)
      case c1 =>
        intro j u hj
        match j, hj with
        | 0, hj => simp at hj; subst hj; simp [Addr.add]
      case c2 => intro u hu; simp at hu; subst hu; rfl
      case c3 => omega
      intro w1 hown' hgrow
      go_wp2
      go_ret
      have el : n + (Lib.uvarint x).length = n + pre.length + 1 := by rw [HS.out, hsm]; simp; omega
      rw [el]
      refine ⟨rfl, ?_, grown_trans hnx (grown_trans (World.grownBy_alloc _ _ _) hgrow)⟩
      rw [HS.out, hsm, Lib.byteCells_snoc pre (by omega)]
      exact hown'
end Go.Proofs.Ybulkahxy
