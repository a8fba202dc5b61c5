/-
  LawS1689BLines: the walk.
-/
import Derived.Test.YbulkahymPut
import Derived.Deep.RegionHeld3
namespace Go.Proofs.Ybulkahym
open Go.RowKit

theorem conv_own {w : World} {B : Nat} {v : Value} {bs : List UInt8} (h : Own w B v bs) : (convert 22 9 v).run Yba.prog w = .ok (.string ⟨bs.toArray⟩) w := by
  have h' : World.ownsRow w B 5 1 v bs.length (Lib.byteCells bs) := h
  rcases h'.2 with ⟨rfl, h0⟩ | ⟨g, cap, cur, rfl, _, hg, _, _, _, htk⟩
  · have e : bs = [] := List.eq_nil_of_length_eq_zero h0
    subst e
    exact Lib.run_convert_nil_bytes w 22 9 5 0 Yba.underlying22 Yba.underlying5 Yba.underlying9
  · exact run_convert_bytes_back (P := Yba.prog) w 22 9 5 ⟨g, 0, none⟩ cap bs Yba.underlying22 Yba.underlying5 Yba.underlying9 (Lib.bytes_of_row (w := w) hg (by simpa using htk))

theorem Own.slice {w : World} {B : Nat} {v : Value} {bs : List UInt8} (h : Own w B v bs) : ∃ a n c, v = .slice a n c := by
  rcases h.2 with ⟨rfl, _⟩ | ⟨g, cap, cur, rfl, _⟩
  · exact ⟨_, _, _, rfl⟩
  · exact ⟨_, _, _, rfl⟩

/-- A row of the call's own stays while what lies from C on is written, if it lies below C. -/
theorem Own.below {w w' : World} {B C : Nat} {v : Value} {bs : List UInt8} (h : Own w B v bs) (hb : Below C w w') (hlt : ∀ k, v.ownBlock = some k → k < C) : Own w' B v bs := by
  have h' : World.ownsRow w B 5 1 v bs.length (Lib.byteCells bs) := h
  refine ⟨h'.1, ?_⟩
  rcases h'.2 with h0 | ⟨g, cap, cur, rfl, hB, hg, r⟩
  · exact .inl h0
  · exact .inr ⟨g, cap, cur, rfl, hB, (hb.block g (hlt g rfl)).trans hg, r⟩

theorem Own.lt' {w : World} {B : Nat} {v : Value} {bs : List UInt8} (h : Own w B v bs) : ∀ k, v.ownBlock = some k → k < w.heap.size := fun k hk => (World.ownsRow.lt h k hk).2

theorem Gen.below {w w' : World} {B C G : Nat} {bs : List UInt8} {name : ByteArray} {depth : Int} (h : Gen w B G bs name depth) (hb : Below C w w') (hC : w.heap.size ≤ C) : Gen w' B G bs name depth := by
  obtain ⟨hBG, v, hG, ho⟩ := h
  exact ⟨hBG, v, (hb.block G (Nat.lt_of_lt_of_le (Lib.lt_of_heap hG) hC)).trans hG, ho.below hb (fun k hk => Nat.lt_of_lt_of_le (ho.lt' k hk) hC)⟩

/-- A source that came in: nil, or a row below C. -/
def SrcIn (w : World) (x : Value) (ns : List UInt8) : Prop :=
  (x = .slice none 0 0 ∧ ns = []) ∨ ∃ ad c, x = .slice (some ad) ns.length c ∧ ∀ j u, (Lib.byteCells ns)[j]? = some u → w.cell? (ad.add j) = some u ∧ (ad.add j).block < w.heap.size

theorem SrcIn.src {w w' : World} {x : Value} {ns : List UInt8} (h : SrcIn w x ns) (hb : Below w.heap.size w w') : Src w' x ns := by
  rcases h with h | ⟨ad, c, rfl, hc⟩
  · exact .inl h
  · exact .inr ⟨ad, c, rfl, fun j u hj => (hb.cell (hc j u hj).2).trans (hc j u hj).1⟩

set_option maxHeartbeats 1600000 in
set_option maxRecDepth 100000 in
theorem lines_in (a : Option Addr) (len cap : Nat) (pre : List UInt8) (depth : Int) (name : ByteArray) (w : World) (hpl : pre.length = len) (hsrc : SrcIn w (.slice a len cap) pre) (hl : len ≤ 1024) (hd : depth ≤ 1024) (hd' : -9223372036854775808 ≤ depth) :
    Calls Yba.prog 3 #[.slice a len cap, .int .i64 depth, .string name] w fun e w' => e = .returned (.bool true) ∧ Below w.heap.size w w' := by
  obtain ⟨v1, w1, hr1, ho1, hb1⟩ := append_src w w.heap.size (.slice none 0 0) [] (own_nil _ _) (Nat.le_refl _) _ pre (hsrc.src (Below.refl _ _)) (by simp; omega)
  rw [List.nil_append] at ho1
  obtain ⟨va, vn, vc, rfl⟩ := ho1.slice
  have HP := Lib.hid hsrc
  have HL := Lib.hid hpl
  have d1 : decide (1024 < (len : Int)) = false := by simp; omega
  have d2 : decide (1024 < depth) = false := by simp; omega
  have gen1 : Gen (w1.alloc (.cells #[.slice va vn vc, .pointer none, .string name, .slice none 0 0, .int .i64 depth] 27)) w.heap.size w1.heap.size pre name depth := by
    refine ⟨hb1.size, _, ?_, ho1.alloc _⟩
    show (w1.heap.push _)[w1.heap.size]? = _
    simp
  have HG1 := Lib.hid gen1
  have HB1 := Lib.hid hb1
  clear hsrc hpl ho1 gen1 hb1
  go_enter Yba.func3, Yba.ntmps3
  go_wp2_with (at_builtin; refine Lib.wpList_append_run _ rfl _ _ _ _ rfl _ _ rfl rfl _ _ hr1 ?_; refine Hid.out ?_)
  refine Lib.hid ?_
  clear hr1 d1 d2
  go_wp2_with fail
  refine (operand_any w.heap.size w1.heap.size pre name depth _ HG1.out (by simp; exact Nat.le_succ_of_le HB1.out.size) hd hd' (by have := HL.out; omega)).mono ?_
  rintro e w2 ⟨rfl, g2, b2⟩
  have bel2 : Below w.heap.size w w2 := (HB1.out.alloc HB1.out.size _).trans b2
  clear HG1 HB1 b2
  go_wp2_with fail
  refine (tabs_any depth w2 hd hd').mono ?_
  rintro e w3 ⟨vt, rfl, ot, bt⟩
  have bel3 : Below w.heap.size w w3 := bel2.trans (bt.mono bel2.size)
  have g3 := g2.below bt (Nat.le_refl _)
  obtain ⟨v4, w4, hr4, ho4, hb4⟩ := append_src w3 w3.heap.size (.slice none 0 0) [] (own_nil _ _) (Nat.le_refl _) _ pre (HP.out.src bel3) (by have := HL.out; simp; omega)
  rw [List.nil_append] at ho4
  have ot4 := ot.below hb4 ot.lt'
  have hB4 : w3.heap.size ≤ w4.heap.size := hb4.size
  have hot : ∀ k, vt.ownBlock = some k → k < w3.heap.size := ot.lt'
  have tl : (tabs depth.toNat).length ≤ 1024 := by rw [tabs_length]; omega
  have z1 : text1.size = 20 := rfl
  have z2 : text2.size = 31 := rfl
  have z3 : text3.size = 4 := rfl
  have HZ := Lib.hid (And.intro z1 (And.intro z2 (And.intro z3 (And.intro tl HL.out))))
  have HG3 := Lib.hid g3
  have HB34 := Lib.hid hb4
  have HO4 := Lib.hid ho4
  have HT4 := Lib.hid ot4
  have HBL3 := Lib.hid bel3
  have HOT := Lib.hid hot
  clear g2 g3 ho4 ot ot4 bel2 bel3 bt hb4 hot z1 z2 z3 tl
  go_wp2_with (at_builtin; refine Lib.wpList_append_run _ rfl _ _ _ _ rfl _ _ rfl rfl _ _ hr4 ?_; refine Hid.out ?_)
  refine Lib.hid ?_
  clear hr4
  go_wp2_with fail
  refine (put_any w3.heap.size v4 pre vt (tabs depth.toNat) text1 w4 HO4.out hB4 HT4.out.src (by decide) (by have := HZ.out; omega)).mono ?_
  rintro e w5 ⟨v5, rfl, ho5, hb5⟩
  have HT5 := Lib.hid (HT4.out.below hb5 HOT.out)
  have hB5 := Nat.le_trans hB4 hb5.size
  have HO5 := Lib.hid ho5
  have HB5 := Lib.hid hb5
  clear ho5 hb5 HO4 HT4
  go_wp2_with fail
  refine (put_any w3.heap.size v5 _ vt (tabs depth.toNat) text2 w5 HO5.out hB5 HT5.out.src (by decide) (by have := HZ.out; simp only [List.length_append, ← Lib.size_eq, List.length_cons, List.length_nil]; omega)).mono ?_
  rintro e w6 ⟨v6, rfl, ho6, hb6⟩
  have HT6 := Lib.hid (HT5.out.below hb6 HOT.out)
  have hB6 := Nat.le_trans hB5 hb6.size
  have HO6 := Lib.hid ho6
  have HB6 := Lib.hid (HB5.out.trans hb6)
  clear ho6 hb6 HO5 HT5 HB5
  go_wp2_with fail
  refine (put_any w3.heap.size v6 _ vt (tabs depth.toNat) text3 w6 HO6.out hB6 HT6.out.src (by decide) (by have := HZ.out; simp only [List.length_append, ← Lib.size_eq, List.length_cons, List.length_nil]; omega)).mono ?_
  rintro e w7 ⟨v7, rfl, ho7, hb7⟩
  have hb37 := HB34.out.trans (HB6.out.trans hb7)
  have bel7 : Below w.heap.size w w7 := HBL3.out.trans (hb37.mono HBL3.out.size)
  obtain ⟨-, vg, hG, hog⟩ := HG3.out.below hb37 (Nat.le_refl _)
  obtain ⟨ga, gn, gc, rfl⟩ := hog.slice
  have c0 : w7.cell? ⟨w1.heap.size, 0, none⟩ = some (.slice ga gn gc) := Lib.cell_of_heap hG 0
  have c1 : w7.cell? ⟨w1.heap.size, 1, none⟩ = some (.pointer none) := Lib.cell_of_heap hG 1
  have c2 : w7.cell? ⟨w1.heap.size, 2, none⟩ = some (.string name) := Lib.cell_of_heap hG 2
  have c3 : w7.cell? ⟨w1.heap.size, 3, none⟩ = some (.slice none 0 0) := Lib.cell_of_heap hG 3
  have c4 : w7.cell? ⟨w1.heap.size, 4, none⟩ = some (.int .i64 depth) := Lib.cell_of_heap hG 4
  have k1 := conv_own hog
  have k2 := conv_own ho7
  have k1d' := conv_own (w := w7.drew) hog
  have k2d' := conv_own (w := w7.drew) ho7
  have hneq := fun w a n c => run_neq_slice_nil_any (P := Yba.prog) w 25 _ a n c 0 0 Yba.underlying25
  have HB7 := Lib.hid bel7
  have efin : pre ++ lineOf depth text1 ++ lineOf depth text2 ++ lineOf depth text3 = pre ++ (tabs depth.toNat ++ text1.data.toList ++ [10]) ++ (tabs depth.toNat ++ text2.data.toList ++ [10]) ++ (tabs depth.toNat ++ text3.data.toList ++ [10]) := rfl
  rw [efin] at k1 k1d'
  generalize pre ++ (tabs depth.toNat ++ text1.data.toList ++ [10]) ++ (tabs depth.toNat ++ text2.data.toList ++ [10]) ++ (tabs depth.toNat ++ text3.data.toList ++ [10]) = fin at *
  clear hG hog ho7 hb7 hb37 bel7 efin HT6 HO6 HB6 HG3 HB34 HBL3 HOT HZ HL HP
  go_wp2_with fail
  have k1d : (convert 22 9 (.slice ga gn gc)).run Yba.prog w7.drew = .ok (.string ⟨fin.toArray⟩) w7.drew := k1d'
  have k2d : (convert 22 9 v7).run Yba.prog w7.drew = .ok (.string ⟨fin.toArray⟩) w7.drew := k2d'
  go_region_held3 (fun w' => w'.cell? ⟨w1.heap.size, 0, none⟩ = some (.slice ga gn gc) ∧ (convert 22 9 (.slice ga gn gc)).run Yba.prog w' = .ok (.string ⟨fin.toArray⟩) w' ∧ (convert 22 9 v7).run Yba.prog w' = .ok (.string ⟨fin.toArray⟩) w') (go_keep) (fail)
  go_wp2
  go_ret
  exact ⟨rfl, HB7.out.drew⟩

set_option maxHeartbeats 800000 in
theorem lines_walk (a : Option Addr) (len cap : Nat) (pre : List UInt8) (depth : Int) (name : ByteArray) (w : World) (hpl : pre.length = len) (hsrc : SrcIn w (.slice a len cap) pre) (hm : len ≤ maxLen) (hd' : -9223372036854775808 ≤ depth) (hd2 : depth ≤ 9223372036854775807) :
    Calls Yba.prog 3 #[.slice a len cap, .int .i64 depth, .string name] w fun e w' => e = .returned (.bool true) ∧ Below w.heap.size w w' := by
  unfold maxLen at hm
  by_cases hl : len ≤ 1024
  case neg =>
    clear hsrc hpl
    go_enter Yba.func3, Yba.ntmps3
    go_wp2
    go_ret
    exact ⟨rfl, Below.refl _ _⟩
  by_cases hd : depth ≤ 1024
  case neg =>
    clear hsrc hpl
    go_enter Yba.func3, Yba.ntmps3
    go_wp2
    go_ret
    exact ⟨rfl, Below.refl _ _⟩
  exact lines_in a len cap pre depth name w hpl hsrc hl hd hd'
end Go.Proofs.Ybulkahym
