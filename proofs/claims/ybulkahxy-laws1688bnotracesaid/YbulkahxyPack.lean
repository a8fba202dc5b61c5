/-
  (*mapBuilder).begin: what the walk is handed at its end.
-/
import Derived.Test.YbulkahxyTail
import Derived.Deep.RegionLaw
import Derived.Deep.DeepCutAuto
namespace Go.Proofs.Ybulkahxy
open Go.RowKit

/-- The slot 'filling', out of memory: for the loop's measure. -/
def fillOf (w : World) (C : Nat) : Nat := (intOf ((w.cell? ⟨C, 6, none⟩).getD undef)).toNat

theorem or_one (L : Nat) (hL : L ≤ 65536) : bits .or .u64 ((L : Int) * 2) 1 = ((L * 2 + 1 : Nat) : Int) := by
  have h := (bits_nat .u64 64 (by decide) (fun n h0 h1 => by rw [IntKind.wrap_u64]; omega) (L * 2) 1 (by omega) (by decide)).2
  have e : (L * 2 ||| 1) = L * 2 + 1 := by
    have := Nat.two_pow_add_eq_or_of_lt (i := 1) (b := 1) (by decide) L
    rw [Nat.pow_one, Nat.mul_comm] at this
    exact this.symm
  have e2 : ((L * 2 : Nat) : Int) = (L : Int) * 2 := by omega
  have e3 : ((1 : Nat) : Int) = 1 := rfl
  rw [e, e2, e3] at h
  exact h

/-- An append whose run is known, as a step of a region that draws its order. -/
theorem step_append_run {P : Program} {ops : Array Oper} {o : Oper} {a : Act} {w : World} {K : Act → World → Prop} {Q : Exit → Act → World → Prop} {E : Prop} (hgd : o.guard = none) (s x : Operand) (t tn : TypeId)
    (ho : o.op = .call { callee := .builtin .append, args := #[s, x], argTypes := #[t, tn] }) (vs vx : Value) (hs : a.eval s = vs) (hx : a.eval x = vx)
    (v' : Value) (w' : World) (hr : (Builtin.append_ #[t, tn] o.type #[vs, vx]).run P w = .ok v' w') (h : K (a.put o.dst v') w') :
    if Region.wanted o (yielded ops a.tmps) = true then Oper.wp P o a w K Q else E := by
  have hw : Region.wanted o (yielded ops a.tmps) = true := by simp [Region.wanted, hgd]
  rw [if_pos hw]
  exact Lib.wp_append_run w s x t tn ho vs vx hs hx v' w' hr h

theorem MB.drew {w : World} {B C : Nat} {cs : Array Value} {vb : Value} {row : List Value} {fill held N : Nat} (h : MB w B C cs vb row fill held N) : MB w.drew B C cs vb row fill held N :=
  ⟨h.blk, h.base, h.c5, h.c6, h.c7, h.own, h.each, h.fill_le, h.len_le⟩
theorem MB.drewN {w : World} {B C : Nat} {cs : Array Value} {vb : Value} {row : List Value} {fill held N : Nat} (h : MB w B C cs vb row fill held N) (n : Nat) : MB (w.drewN n) B C cs vb row fill held N :=
  ⟨h.blk, h.base, h.c5, h.c6, h.c7, h.own, h.each, h.fill_le, h.len_le⟩

theorem MB.next {w : World} {B C : Nat} {cs : Array Value} {vb : Value} {row : List Value} {f held N : Nat} (h : MB w B C cs vb row f held N) (hlt : f < row.length) : MB (w.setCell ⟨C, 6, none⟩ (.int .i64 ((f : Int) + 1))) B C (cs.setIfInBounds 6 (.int .i64 ((f : Int) + 1))) vb row (f + 1) held N :=
  h.kept ((Kept.refl B C w).set h.blk h.base 6 _) (h.blk.set 6 _) ((get_set_other _ 6 5 (by decide) _).trans h.c5) (by rw [get_set_same h.blk.2 6 (by decide)]; rfl) ((get_set_other _ 6 7 (by decide) _).trans h.c7) (h.own_set 6 _) (by omega) h.len_le

theorem fillOf_eq {w : World} {B C : Nat} {cs : Array Value} {vb : Value} {row : List Value} {f held N : Nat} (h : MB w B C cs vb row f held N) : fillOf w C = f := by
  have c6 : w.cell? ⟨C, 6, none⟩ = some (.int .i64 f) := (h.blk.cell 6).trans h.c6
  simp [fillOf, c6, intOf]

/-- What 'begin' leaves. -/
def BeginPost (w : World) (B C : Nat) (cs : Array Value) (held : Nat) (kb : List UInt8) (e : Ending) (w' : World) : Prop :=
  e = .returned (.tuple #[]) ∧ ∃ cs' vb' row' f off, MB w' B C cs' vb' row' f (held + 1) (held + 1) ∧ Kept B C w w' ∧ cs'[8]? = some (.int .u32 ((f : Nat) : Int)) ∧ cs'[9]? = some (.int .u32 ((off : Nat) : Int)) ∧ (∀ i, 10 ≤ i → cs'[i]? = cs[i]?) ∧ f < row'.length ∧ Rec w' row' f off kb

theorem Kept.trans {B C : Nat} {a b c : World} (h : Kept B C a b) (k : Kept B C b c) : Kept B C a c := by
  refine ⟨h.below.trans k.below, fun i hi h1 h2 h3 => ?_, fun i cc hc => ?_⟩
  · have e := h.block i hi h1 h2 h3
    exact (k.block i (Nat.lt_of_lt_of_le hi h.below.size) h1 (fun c => by rw [e]; exact h2 c) (fun c => by rw [e]; exact h3 c)).trans e
  · obtain ⟨c1, e1, e2⟩ := h.row5 i cc hc
    obtain ⟨c2, e3, e4⟩ := k.row5 i c1 e1
    exact ⟨c2, e3, e4.trans e2⟩

theorem auv_at (B g n cap x : Nat) (X : Int) (hX : X = (x : Int)) (hx : x < 18446744073709551616) (xs : List Value) (w : World) (hown : w.ownsRow B 5 1 (.slice (some ⟨g, 0, none⟩) n cap) n xs) (hroom : n + (Lib.uvarint x).length ≤ cap) :
    Calls Yba.prog 12 #[.slice (some ⟨g, 0, none⟩) n cap, .int .u64 X] w fun e w' => e = .returned (.slice (some ⟨g, 0, none⟩) (n + (Lib.uvarint x).length) cap) ∧
      w'.ownsRow B 5 1 (.slice (some ⟨g, 0, none⟩) (n + (Lib.uvarint x).length) cap) (n + (Lib.uvarint x).length) (xs ++ Lib.byteCells (Lib.uvarint x)) ∧ w.grownBy w' (some g) := by
  subst hX
  exact auv_room B g n cap x hx xs w hown hroom

/-- Behind AppendUvarint: all that the rest of the walk asks, and what it comes to. -/
theorem tail_pack {w W W2 : World} {B C : Nat} {cs cs1 : Array Value} {vb : Value} {row : List Value} {f held N R vc g l cap gs cc L : Nat} {cur bcur : Array Value} {kb : List UInt8}
    (h : Found W B C cs1 vb row f held N R vc g l cap cur bcur) (hB : B ≤ w.heap.size) (hN : row.length ≤ held + 1) (hC0 : CBlk w C cs) (hk : Kept B C w W) (hcs : ∀ i, 8 ≤ i → cs1[i]? = cs[i]?) (hsrc : SrcBlk w gs kb) (hkb : kb.length = L) (hroom : l + 42 + L ≤ cap) (hL : L ≤ 65536)
    (hgr : ((W.setCell ⟨C, 8, none⟩ (.int .u32 (f : Int))).setCell ⟨C, 9, none⟩ (.int .u32 (l : Int))).grownBy W2 (some g))
    (hown : W2.ownsRow B 5 1 (.slice (some ⟨g, 0, none⟩) (l + 32 + (Lib.uvarint (L * 2 + 1)).length) cap) (l + 32 + (Lib.uvarint (L * 2 + 1)).length) (bcur.toList.take (l + 32) ++ Lib.byteCells (Lib.uvarint (L * 2 + 1)))) :
    W2.cell? ⟨C, 5, none⟩ = some (.slice (some ⟨R, 0, none⟩) row.length vc) ∧ W2.cell? ⟨C, 6, none⟩ = some (.int .i64 f) ∧ R ≠ C ∧
    ∃ W3 n3, (Builtin.append_ #[49, 49] 49 #[.slice (some ⟨g, 0, none⟩) (l + 32 + (Lib.uvarint (L * 2 + 1)).length) cap, .slice (some ⟨gs, 0, none⟩) L cc]).run Yba.prog W2.drew = .ok (.slice (some ⟨g, 0, none⟩) n3 cap) W3 ∧
      (∃ v, W3.cell? ⟨R, f, none⟩ = some v) ∧ W3.frozen? ⟨R, f, none⟩ = false ∧ W3.cell? ⟨C, 5, none⟩ = some (.slice (some ⟨R, 0, none⟩) row.length vc) ∧ W3.cell? ⟨C, 6, none⟩ = some (.int .i64 f) ∧
      W3.cell? ⟨C, 7, none⟩ = some (.int .i64 held) ∧ W3.frozen? ⟨C, 7, none⟩ = false ∧
      BeginPost w B C cs held kb (.returned (.tuple #[])) ((W3.setCell ⟨R, f, none⟩ (.slice (some ⟨g, 0, none⟩) n3 cap)).setCell ⟨C, 7, none⟩ (.int .i64 ((held : Int) + 1))) := by
  have hBW : B ≤ W.heap.size := Nat.le_trans hB hk.below.size
  obtain ⟨hC1, hk1, hg1, hR1⟩ := h.noted (.int .u32 (f : Int)) (.int .u32 (l : Int))
  obtain ⟨hC2, hk2, hR2, c2, hg2, hs2, htk2⟩ := h.wrote hBW hk1 hC1 hR1 hg1 h.hgs hgr hown
  have hsz := h.mb.blk.2
  have hs1 : (cs1.setIfInBounds 8 (.int .u32 (f : Int))).size = 55 := by rw [Array.size_setIfInBounds]; exact hsz
  have e5 : ((cs1.setIfInBounds 8 (.int .u32 (f : Int))).setIfInBounds 9 (.int .u32 (l : Int)))[5]? = some vb := (get_set_other _ 9 5 (by decide) _).trans ((get_set_other _ 8 5 (by decide) _).trans h.mb.c5)
  have e6 : ((cs1.setIfInBounds 8 (.int .u32 (f : Int))).setIfInBounds 9 (.int .u32 (l : Int)))[6]? = some (.int .i64 f) := (get_set_other _ 9 6 (by decide) _).trans ((get_set_other _ 8 6 (by decide) _).trans h.mb.c6)
  have e7 : ((cs1.setIfInBounds 8 (.int .u32 (f : Int))).setIfInBounds 9 (.int .u32 (l : Int)))[7]? = some (.int .i64 held) := (get_set_other _ 9 7 (by decide) _).trans ((get_set_other _ 8 7 (by decide) _).trans h.mb.c7)
  have e8 : ((cs1.setIfInBounds 8 (.int .u32 (f : Int))).setIfInBounds 9 (.int .u32 (l : Int)))[8]? = some (.int .u32 (f : Int)) := (get_set_other _ 9 8 (by decide) _).trans (get_set_same hsz 8 (by decide) _)
  have e9 : ((cs1.setIfInBounds 8 (.int .u32 (f : Int))).setIfInBounds 9 (.int .u32 (l : Int)))[9]? = some (.int .u32 (l : Int)) := get_set_same hs1 9 (by decide) _
  have e10 : ∀ i, 10 ≤ i → ((cs1.setIfInBounds 8 (.int .u32 (f : Int))).setIfInBounds 9 (.int .u32 (l : Int)))[i]? = cs[i]? := fun i hi => (get_set_other _ 9 i (by omega) _).trans ((get_set_other _ 8 i (by omega) _).trans (hcs i (by omega)))
  generalize (cs1.setIfInBounds 8 (.int .u32 (f : Int))).setIfInBounds 9 (.int .u32 (l : Int)) = cs2 at *
  have hvb := h.hvb
  have huv : (Lib.uvarint (L * 2 + 1)).length ≤ 4 := Lib.uvarint_length 3 _ (Nat.lt_of_le_of_lt (show L * 2 + 1 ≤ 131073 by omega) (by decide))
  refine ⟨(hC2.cell 5).trans (by rw [e5, hvb]), (hC2.cell 6).trans e6, h.RC, ?_⟩
  have hsrc2 : SrcBlk W2 gs kb := by
    obtain ⟨hb2, hbl, hr5⟩ := hk2
    exact (hsrc.keptIn hC0 hk).keptIn h.mb.blk ⟨hb2, hbl, hr5⟩
  obtain ⟨i, hi, hz, hs, hb⟩ := info5
  obtain ⟨W3, hr, hown3, hgr3⟩ := run_append_fits (P := Yba.prog) W2.drew B 49 49 5 i 1 Yba.underlying49 hi hs g (l + 32 + (Lib.uvarint (L * 2 + 1)).length) cap _ hown.drew ⟨gs, 0, none⟩ L cc (Lib.byteCells kb) (by rw [Lib.byteCells_length, hkb, Nat.mul_one]) hsrc2.cells (Lib.byteCells_one _) (by omega)
  have hgr3' : W2.grownBy W3 (some g) := ⟨hgr3.os, hgr3.tape, hgr3.output, hgr3.size, hgr3.block⟩
  obtain ⟨hC3, hk3, hR3, c3, hg3, hs3, htk3⟩ := h.wrote hBW hk2 hC2 hR2 hg2 hs2 hgr3' hown3
  have hkb' : L = kb.length := hkb.symm
  obtain ⟨row', cs5, hmb5, hk5, hcs5, hf5, hrec⟩ := h.done hBW hN (kb := kb) hk3 hC3 hR3 hg3 hs3 (by rw [hkb]) (by omega) (by rw [hkb]; exact htk3) e5 e6
  refine ⟨W3, _, hr, ⟨_, row_cell hR3 h.htk f h.hlt⟩, Lib.frozen_of_heap hR3 f, (hC3.cell 5).trans (by rw [e5, hvb]), (hC3.cell 6).trans e6, (hC3.cell 7).trans e7, hC3.free 7, rfl, cs5, vb, row', f, l, hmb5, ?_, (hcs5 8 (by omega)).trans e8, (hcs5 9 (by omega)).trans e9, fun i hi => (hcs5 i (by omega)).trans (e10 i hi), hf5, hrec⟩
  exact hk.trans hk5

end Go.Proofs.Ybulkahxy
