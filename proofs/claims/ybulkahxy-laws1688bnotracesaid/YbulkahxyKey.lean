/-
  (*mapBuilder).addStringKey: 'begin', and the key's reference.
-/
import Derived.Test.YbulkahxyBegin
import Derived.Deep.MidRow
namespace Go.Proofs.Ybulkahxy
open Go.RowKit

/-- A reference: 32 bytes. -/
def IsRef (ks : List Value) : Prop := ks.length = 32 ∧ ∀ v ∈ ks, ∃ x : Int, v = .int .u8 x

theorem IsRef.one {ks : List Value} (h : IsRef ks) : ∀ v ∈ ks, v.oneCell' = true := fun v hv => by
  obtain ⟨x, rfl⟩ := h.2 v hv
  rfl

/-- Many cells of the container are written at once. -/
theorem CBlk.setCells {w0 : World} {B C : Nat} (hBC : B ≤ C) : ∀ (vs : List Value) (o : Nat) (w : World) (cs : Array Value), CBlk w C cs → Kept B C w0 w → o + vs.length ≤ 55 →
    ∃ cs', CBlk (w.setCells C o vs) C cs' ∧ Kept B C w0 (w.setCells C o vs) ∧ (∀ (j : Nat) (v : Value), vs[j]? = some v → cs'[o + j]? = some v) ∧ (∀ i : Nat, i < o ∨ o + vs.length ≤ i → cs'[i]? = cs[i]?) ∧ (∀ k : Nat, k ≠ C → (w.setCells C o vs).heap[k]? = w.heap[k]?)
  | [], o, w, cs, hC, hk, _ => ⟨cs, hC, hk, fun j v hv => by simp at hv, fun _ _ => rfl, fun _ _ => rfl⟩
  | v :: r, o, w, cs, hC, hk, hle => by
    rw [List.length_cons] at hle
    obtain ⟨cs', h1, h2, h3, h4, h5⟩ := CBlk.setCells hBC r (o + 1) (w.setCell ⟨C, o, none⟩ v) (cs.setIfInBounds o v) (hC.set o v) (hk.set hC hBC o v) (by omega)
    refine ⟨cs', h1, h2, fun j u hu => ?_, fun i hi => ?_, fun k hk' => (h5 k hk').trans (Below.heap_setCell _ _ _ _ hk')⟩
    · match j, hu with
      | 0, hu =>
        simp at hu
        subst hu
        rw [Nat.add_zero, h4 o (Or.inl (by omega))]
        exact get_set_same hC.2 o (by omega) v
      | j + 1, hu =>
        have := h3 j u (by simpa using hu)
        rw [← this]
        congr 1
        omega
    · rw [List.length_cons] at hi
      rw [h4 i (by omega)]
      exact get_set_other cs o i (by omega) v

/-- What the map builder's addStringKey leaves. -/
structure KeyState (w : World) (B C : Nat) (cs : Array Value) (held : Nat) (kb : List UInt8) (ks : List Value) (w' : World) (cs' : Array Value) (vb' : Value) (row' : List Value) (f off : Nat) : Prop where
  mb : MB w' B C cs' vb' row' f (held + 1) (held + 1)
  kept : Kept B C w w'
  c8 : cs'[8]? = some (.int .u32 ((f : Nat) : Int))
  c9 : cs'[9]? = some (.int .u32 ((off : Nat) : Int))
  key : ∀ (j : Nat) (v : Value), ks[j]? = some v → cs'[13 + j]? = some v
  rest : ∀ i : Nat, 45 ≤ i → cs'[i]? = cs[i]?
  lt : f < row'.length
  recd : Rec w' row' f off kb

def KeyPost (w : World) (B C : Nat) (cs : Array Value) (held : Nat) (kb : List UInt8) (ks : List Value) (e : Ending) (w' : World) : Prop :=
  e = .returned (.tuple #[]) ∧ ∃ cs' vb' row' f off, KeyState w B C cs held kb ks w' cs' vb' row' f off

theorem Rec.setCells {C : Nat} {w : World} {row : List Value} {f off : Nat} {kb : List UInt8} {cs : Array Value} (h : Rec w row f off kb) (hC : CBlk w C cs) {w' : World} (hh : ∀ k : Nat, k ≠ C → w'.heap[k]? = w.heap[k]?) : Rec w' row f off kb := by
  obtain ⟨g, cap, cur, h1, h2, r⟩ := h
  exact ⟨g, cap, cur, h1, (hh g (blocks_ne h2 hC.1 (by decide))).trans h2, r⟩

theorem ownsRow_heap {w w' : World} {B C : Nat} {vb : Value} {n : Nat} {row : List Value} (h : w.ownsRow B 49 1 vb n row) (hne : vb.ownBlock ≠ some C) (hh : ∀ k : Nat, k ≠ C → w'.heap[k]? = w.heap[k]?) : w'.ownsRow B 49 1 vb n row := by
  refine ⟨h.1, ?_⟩
  rcases h.2 with h0 | ⟨g, cap, cur, rfl, hB, hg, r⟩
  · exact .inl h0
  · exact .inr ⟨g, cap, cur, rfl, hB, (hh g (fun e => hne (by simp [Value.ownBlock, e]))).trans hg, r⟩

/-- The key's reference is stored behind 'begin'. -/
theorem key_stored {w w1 w2 : World} {B C : Nat} {cs : Array Value} {held : Nat} {kb : List UInt8} {ks : List Value} (hks : IsRef ks) (hk01 : Kept B C w w1) (hp : BeginPost w1 B C cs held kb (.returned (.tuple #[])) w2) :
    w2.there C 13 32 ∧ KeyPost w B C cs held kb ks (.returned (.tuple #[])) (w2.setCells C 13 ks) := by
  obtain ⟨_, cs', vb', row', f, off, hmb, hk, h8, h9, h10, hlt, hrec⟩ := hp
  obtain ⟨cs2, hC2, hk2, hin, hout, hh⟩ := CBlk.setCells (w0 := w) hmb.base ks 13 w2 cs' hmb.blk (hk01.trans hk) (by rw [hks.1]; decide)
  rw [hks.1] at hout
  refine ⟨fun j hj => ?_, rfl, cs2, vb', row', f, off, ⟨hC2, hmb.base, (hout 5 (by omega)).trans hmb.c5, (hout 6 (by omega)).trans hmb.c6, (hout 7 (by omega)).trans hmb.c7, ownsRow_heap hmb.own hmb.row_ne hh, fun v hv => ?_, hmb.fill_le, hmb.len_le⟩, hk2, (hout 8 (by omega)).trans h8, (hout 9 (by omega)).trans h9, hin, fun i hi => (hout i (by omega)).trans (h10 i (by omega)), hlt, hrec.setCells hmb.blk hh⟩
  · obtain ⟨v, hv⟩ := hmb.blk.there (13 + j) (by omega)
    exact ⟨by rw [hmb.blk.cell, hv]; rfl, hmb.blk.free _⟩
  · obtain ⟨g, l, cap, cur, rfl, a1, a2, a3, a4, a5⟩ := hmb.each v hv
    exact ⟨g, l, cap, cur, rfl, a1, a2, (hh g (blocks_ne a3 hmb.blk.1 (by decide))).trans a3, a4, a5⟩

theorem info24 : (Yba.prog.info? 24).map (·.size) = some 32 := by kernel_rfl
end Go.Proofs.Ybulkahxy
