/-
  operand, zzs1689btabs, zzs1689bput: their contracts.
-/
import Derived.Test.YbulkahymLine
namespace Go.Proofs.Ybulkahym
open Go.RowKit

def text1 : ByteArray := ⟨#[99, 97, 115, 101, 32, 36, 111, 112, 116, 107, 101, 101, 108, 95, 114, 117, 110, 32, 105, 110]⟩
def text2 : ByteArray := ⟨#[39, 39, 41, 32, 111, 112, 116, 107, 101, 101, 108, 95, 114, 117, 110, 61, 36, 111, 112, 116, 107, 101, 101, 108, 95, 112, 111, 115, 32, 59, 59]⟩
def text3 : ByteArray := ⟨#[101, 115, 97, 99]⟩

set_option maxHeartbeats 800000 in
set_option maxRecDepth 100000 in
theorem operand_any (B G : Nat) (bs : List UInt8) (name : ByteArray) (depth : Int) (w : World) (h : Gen w B G bs name depth) (hB : B ≤ w.heap.size) (hd : depth ≤ 1024) (hd' : -9223372036854775808 ≤ depth) (hlen : bs.length ≤ 1024) :
    Calls Yba.prog 6 #[.pointer (some ⟨G, 0, none⟩)] w fun e w' => e = .returned (.tuple #[]) ∧ Gen w' B G (bs ++ lineOf depth text1 ++ lineOf depth text2 ++ lineOf depth text3) name depth ∧ Below B w w' := by
  have z1 : text1.size = 20 := rfl
  have z2 : text2.size = 31 := rfl
  have z3 : text3.size = 4 := rfl
  have l1 := lineOf_length depth text1
  have l2 := lineOf_length depth text2
  have HZ := Lib.hid (And.intro z1 (And.intro z2 (And.intro z3 (And.intro l1 l2))))
  clear z1 z2 z3 l1 l2
  go_enter Yba.func6, Yba.ntmps6
  go_wp2_with fail
  refine (line_any B G bs text1 name depth _ h hB (by decide) hd hd' (by have := HZ.out; omega)).mono ?_
  rintro e w1 ⟨rfl, g1, b1⟩
  have hB1 := Nat.le_trans hB b1.size
  go_wp2_with fail
  refine (line_any B G _ text2 name depth _ g1 hB1 (by decide) hd hd' (by have := HZ.out; simp only [List.length_append]; omega)).mono ?_
  rintro e w2 ⟨rfl, g2, b2⟩
  have hB2 := Nat.le_trans hB1 b2.size
  go_wp2_with fail
  refine (line_any B G _ text3 name depth _ g2 hB2 (by decide) hd hd' (by have := HZ.out; simp only [List.length_append]; omega)).mono ?_
  rintro e w3 ⟨rfl, g3, b3⟩
  go_wp2
  go_end0
  exact ⟨rfl, g3, (b1.trans b2).trans b3⟩

set_option maxHeartbeats 800000 in
set_option maxRecDepth 100000 in
theorem tabs_any (d : Int) (w : World) (hd : d ≤ 1024) (hd' : -9223372036854775808 ≤ d) :
    Calls Yba.prog 7 #[.int .i64 d] w fun e w' => ∃ v, e = .returned v ∧ Own w' w.heap.size v (tabs d.toNat) ∧ Below w.heap.size w w' := by
  go_enter Yba.func7, Yba.ntmps7
  go_wp2
  go_loopw [3, 4] (fun t i wr => ∃ k : Nat, k ≤ d.toNat ∧ i = .int .i64 k ∧ Hid (Own wr w.heap.size t (tabs k)) ∧ Hid (Below w.heap.size w wr)) (fun _ i _ => d.toNat - (intOf i).toNat)
  case atStart => exact ⟨0, Nat.zero_le _, rfl, own_nil _ _, Below.refl _ _⟩
  case round =>
    obtain ⟨k, hk, rfl, ho, hbel⟩ := hrel
    by_cases hlt : (k : Int) < d
    · obtain ⟨g, cap, w1, hr, ho1, hg1⟩ := append_byte wr w.heap.size _ _ ho.out hbel.out.size 9 9 rfl (by simp [tabs_length]; omega)
      rw [← tabs_succ] at ho1
      have HO1 := Lib.hid ho1
      have HB1 := Lib.hid (hbel.out.trans (((Below.refl _ wr).alloc hbel.out.size _).trans ((ho.out.alloc _).grown (by simp; exact Nat.le_succ_of_le hbel.out.size) hg1)))
      clear ho ho1 hg1 hbel
      generalize (tabs k).length + 1 = m1 at *
      go_wp2_with (at_builtin; refine Lib.wpList_append_run _ rfl _ _ _ _ rfl _ _ rfl rfl _ _ hr ?_; refine Hid.out ?_)
      refine Lib.hid ?_
      clear hr
      go_wp2
      go_roundw
      case rel => exact ⟨k + 1, by omega, by go_num, HO1, HB1⟩
      case measure => simp [intOf]; omega
    · have e : k = d.toNat := by omega
      subst e
      go_wp2
      go_ret
      exact ⟨_, rfl, ho, hbel⟩

/-- A slice whose bytes can be read: nil, or a row of cells. -/
def Src (w : World) (x : Value) (ns : List UInt8) : Prop :=
  (x = .slice none 0 0 ∧ ns = []) ∨ ∃ ad c, x = .slice (some ad) ns.length c ∧ ∀ j u, (Lib.byteCells ns)[j]? = some u → w.cell? (ad.add j) = some u

theorem Own.src {w : World} {B : Nat} {v : Value} {bs : List UInt8} (h : Own w B v bs) : Src w v bs := by
  have h' : World.ownsRow w B 5 1 v bs.length (Lib.byteCells bs) := h
  rcases h'.2 with ⟨rfl, h0⟩ | ⟨g, cap, cur, rfl, _, hg, _⟩
  · exact .inl ⟨rfl, List.eq_nil_of_length_eq_zero h0⟩
  · exact .inr ⟨_, _, rfl, h'.cells (g := g) rfl⟩

theorem append_src (w : World) (B : Nat) (v : Value) (bs : List UInt8) (h : Own w B v bs) (hB : B ≤ w.heap.size) (x : Value) (ns : List UInt8) (hx : Src w x ns) (hlen : bs.length + ns.length ≤ 140737488355328) :
    ∃ v' w', (Builtin.append_ #[22, 22] 22 #[v, x]).run Yba.prog w = .ok v' w' ∧ Own w' B v' (bs ++ ns) ∧ Below B w w' := by
  obtain ⟨i, hi, hz, hs, hb⟩ := info5
  rcases hx with ⟨rfl, rfl⟩ | ⟨ad, c, rfl, hnews⟩
  · have hr := run_append_owned_none (P := Yba.prog) (w := w) B 22 22 5 i 1 Yba.underlying22 hi v _ _ h
    exact ⟨v, w, hr, by rw [List.append_nil]; exact h, Below.refl _ _⟩
  · obtain ⟨v', w', hr, ho, hg, _, _⟩ := run_append_own_at (P := Yba.prog) w B 22 22 5 i (.int .u8 0) 1 1 Yba.underlying22 hi hz hs hb rfl (by decide) v bs.length (Lib.byteCells bs) h ad ns.length c (Lib.byteCells ns)
      (by rw [Lib.byteCells_length, Nat.mul_one]) hnews (Lib.byteCells_one _) (by unfold maxLen; omega) (by omega) hB
    refine ⟨v', w', hr, ?_, h.grown hB hg⟩
    unfold Own
    rw [Lib.byteCells_append, List.length_append]
    exact ho

set_option maxHeartbeats 800000 in
set_option maxRecDepth 100000 in
theorem put_any (B : Nat) (vw : Value) (ws : List UInt8) (vt : Value) (ts : List UInt8) (s : ByteArray) (w : World) (h : Own w B vw ws) (hB : B ≤ w.heap.size) (ht : Src w vt ts) (hs : 0 < s.size) (hlen : ws.length + ts.length + s.size + 1 ≤ 140737488355328) :
    Calls Yba.prog 8 #[vw, vt, .string s] w fun e w' => ∃ v, e = .returned v ∧ Own w' B v (ws ++ (ts ++ s.data.toList ++ [10])) ∧ Below B w w' := by
  obtain ⟨v1, w1, hr1, ho1, hb1⟩ := append_src w B vw ws h hB vt ts ht (by omega)
  have hB1 := Nat.le_trans hB hb1.size
  obtain ⟨g2, cap2, w2, hr2, ho2, hg2⟩ := append_str w1 B v1 _ ho1 hB1 s hs (by simp only [List.length_append]; omega)
  have hb2 := ho1.grown hB1 hg2
  have hB2 := Nat.le_trans hB1 hb2.size
  obtain ⟨g3, cap3, w3, hr3, ho3, hg3⟩ := append_byte w2 B _ _ ho2 hB2 10 10 rfl (by simp only [List.length_append, ← Lib.size_eq]; omega)
  have hb3 := ((Below.refl B w2).alloc hB2 (.cells #[.int .u8 10] 5)).trans ((ho2.alloc _).grown (by simp; omega) hg3)
  have HB := Lib.hid ((hb1.trans hb2).trans hb3)
  have efin : ws ++ ts ++ s.data.toList ++ [10] = ws ++ (ts ++ s.data.toList ++ [10]) := by simp
  rw [efin] at ho3
  have HO := Lib.hid ho3
  clear h ho1 ho2 ho3 hb1 hb2 hb3 hg2 hg3 hB1 hB2 ht efin
  generalize (ws ++ ts).length + s.size = m2 at *
  generalize (ws ++ ts ++ s.data.toList).length + 1 = m3 at *
  go_enter Yba.func8, Yba.ntmps8
  go_wp2_with (at_builtin; refine Lib.wpList_append_run _ rfl _ _ _ _ rfl _ _ rfl rfl _ _ hr1 ?_; refine Hid.out ?_)
  refine Lib.hid ?_
  clear hr1
  go_wp2_with (at_builtin; refine Lib.wpList_append_run _ rfl _ _ _ _ rfl _ _ rfl rfl _ _ hr2 ?_; refine Hid.out ?_)
  refine Lib.hid ?_
  clear hr2
  go_wp2_with (at_builtin; refine Lib.wpList_append_run _ rfl _ _ _ _ rfl _ _ rfl rfl _ _ hr3 ?_; refine Hid.out ?_)
  refine Lib.hid ?_
  clear hr3
  go_wp2
  go_ret
  exact ⟨_, rfl, HO, HB⟩
end Go.Proofs.Ybulkahym
