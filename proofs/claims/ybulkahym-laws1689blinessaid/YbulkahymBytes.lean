/-
  Rows of bytes that the call owns: what an append onto one does, at this dump's numbers.
-/
import Derived.Test.YbulkahymRows
import Derived.WalkKit
import Derived.WalkSpells
import Derived.WalkLawsBesides
import Derived.Deep.AppendLies
import Derived.Lib.AppendZeros
import Derived.Lib.AppendStr
import Derived.Lib.BufferAt
namespace Go.Proofs.Ybulkahym
open Go.RowKit

theorem info5 : ∃ i, Yba.prog.info? 5 = some i ∧ i.zero = some (.int .u8 0) ∧ i.size = 1 ∧ i.bytes = 1 := by
  have h : (Yba.prog.info? 5).map (fun i => (i.size, i.bytes)) = some (1, 1) := by kernel_rfl
  have hz : (Yba.prog.info? 5).map (·.zero) = some (some (.int .u8 0)) := by kernel_rfl
  cases hq : Yba.prog.info? 5 with
  | none => rw [hq] at h; cases h
  | some i =>
    rw [hq] at h hz
    simp at h hz
    exact ⟨i, rfl, hz, h.1, h.2⟩

/-- In w the slice v owns the bytes bs, in a block from B on. -/
def Own (w : World) (B : Nat) (v : Value) (bs : List UInt8) : Prop := w.ownsRow B 5 1 v bs.length (Lib.byteCells bs)

theorem own_nil (w : World) (B : Nat) : Own w B (.slice none 0 0) [] := World.ownsRow_nil _ _ _ _

theorem Own.alloc {w : World} {B : Nat} {v : Value} {bs : List UInt8} (h : Own w B v bs) (o : Obj) : Own (w.alloc o) B v bs := World.ownsRow.alloc h o

theorem Own.grown {w w' : World} {B : Nat} {v : Value} {bs : List UInt8} (h : Own w B v bs) (hB : B ≤ w.heap.size) (hg : w.grownBy w' v.ownBlock) : Below B w w' :=
  (Below.refl B w).grown hg hB (fun k hk => (World.ownsRow.lt h k hk).1)

/-- A block of another type than byte is not the row's. -/
theorem Own.ne {w : World} {B : Nat} {v : Value} {bs : List UInt8} (h : Own w B v bs) {G : Nat} {cs : Array Value} {T : TypeId} {fr : Nat × Nat} (hG : w.heap[G]? = some (.cells cs T fr)) (hT : T ≠ 5) : some G ≠ v.ownBlock := by
  intro e
  rcases h.2 with ⟨rfl, _⟩ | ⟨g, cap, cur, rfl, _, hg, _⟩
  · simp [Value.ownBlock] at e
  · simp only [Value.ownBlock, Option.some.injEq] at e
    subst e
    rw [hg] at hG
    injection hG with h1
    injection h1 with _ h2 _
    exact hT h2.symm

/-- What is appended lies in a row of cells. -/
theorem append_cells (W : World) (B : Nat) (v : Value) (bs : List UInt8) (h : Own W B v bs) (hB : B ≤ W.heap.size) (ad : Addr) (m c : Nat) (ns : List UInt8) (hm : ns.length = m) (hpos : 0 < m)
    (hnews : ∀ j u, (Lib.byteCells ns)[j]? = some u → W.cell? (ad.add j) = some u) (hlen : bs.length + m ≤ 140737488355328) :
    ∃ g cap w', (Builtin.append_ #[22, 22] 22 #[v, .slice (some ad) m c]).run Yba.prog W = .ok (.slice (some ⟨g, 0, none⟩) (bs.length + m) cap) w' ∧ Own w' B (.slice (some ⟨g, 0, none⟩) (bs.length + m) cap) (bs ++ ns) ∧ W.grownBy w' v.ownBlock := by
  obtain ⟨i, hi, hz, hs, hb⟩ := info5
  obtain ⟨g, cap, w', hr, ho, hg, _, _⟩ := run_append_lies (P := Yba.prog) W 22 22 B 5 i (.int .u8 0) 1 1 Yba.underlying22 hi hz hs hb rfl (by decide) v bs.length (Lib.byteCells bs) h ad m c (Lib.byteCells ns)
    (by rw [Lib.byteCells_length, hm, Nat.mul_one]) hnews (Lib.byteCells_one _) hpos (by unfold maxLen; omega) (by omega) hB _ rfl
  refine ⟨g, cap, w', hr, ?_, hg⟩
  unfold Own
  rw [Lib.byteCells_append, List.length_append, hm]
  exact ho

/-- 'append(v, c)': the byte lies in the block that the statement has just made. -/
theorem append_byte (w : World) (B : Nat) (v : Value) (bs : List UInt8) (h : Own w B v bs) (hB : B ≤ w.heap.size) (c : UInt8) (x : Int) (hx : x = (c.toNat : Int)) (hlen : bs.length + 1 ≤ 140737488355328) :
    ∃ g cap w', (Builtin.append_ #[22, 22] 22 #[v, .slice (some ⟨w.heap.size, 0, none⟩) 1 1]).run Yba.prog (w.alloc (.cells #[.int .u8 x] 5)) = .ok (.slice (some ⟨g, 0, none⟩) (bs.length + 1) cap) w' ∧ Own w' B (.slice (some ⟨g, 0, none⟩) (bs.length + 1) cap) (bs ++ [c]) ∧ (w.alloc (.cells #[.int .u8 x] 5)).grownBy w' v.ownBlock := by
  subst hx
  refine append_cells _ B v bs (h.alloc _) (by simp; omega) _ 1 1 [c] rfl (by decide) ?_ hlen
  intro j u hj
  match j, hj with
  | 0, hj => simp [Lib.byteCells] at hj; subst hj; simp [Addr.add]
  | (j + 1), hj => simp [Lib.byteCells] at hj

theorem append_str (w : World) (B : Nat) (v : Value) (bs : List UInt8) (h : Own w B v bs) (hB : B ≤ w.heap.size) (s : ByteArray) (hpos : 0 < s.size) (hlen : bs.length + s.size ≤ 140737488355328) :
    ∃ g cap w', (Builtin.append_ #[22, 9] 22 #[v, .string s]).run Yba.prog w = .ok (.slice (some ⟨g, 0, none⟩) (bs.length + s.size) cap) w' ∧ Own w' B (.slice (some ⟨g, 0, none⟩) (bs.length + s.size) cap) (bs ++ s.data.toList) ∧ w.grownBy w' v.ownBlock := by
  obtain ⟨i, hi, hz, hs, hb⟩ := info5
  obtain ⟨v', w', hr, ho, hg, _⟩ := Lib.run_append_own_string (P := Yba.prog) w B 22 9 22 5 i Yba.underlying22 Yba.underlying9 hi hz hs hb v bs.length (Lib.byteCells bs) h s (by unfold maxLen; omega) hlen hB
  obtain ⟨g, cap, rfl, _, _⟩ := ho.form (by omega)
  refine ⟨g, cap, w', hr, ?_, hg⟩
  unfold Own
  rw [Lib.byteCells_append, List.length_append, ← Lib.size_eq]
  exact ho

/-- A generator that the call has made, in block G: its buffer holds bs. -/
def Gen (w : World) (B G : Nat) (bs : List UInt8) (name : ByteArray) (depth : Int) : Prop :=
  B ≤ G ∧ ∃ v, w.heap[G]? = some (.cells #[v, .pointer none, .string name, .slice none 0 0, .int .i64 depth] 27 (0, 0)) ∧ Own w B v bs

/-- Behind an append onto the generator's buffer and the store of the new slice. -/
theorem Gen.stored {w w1 : World} {B G : Nat} {bs bs' : List UInt8} {name : ByteArray} {depth : Int} {v v' : Value} (hBG : B ≤ G) (hB : B ≤ w.heap.size)
    (hG : w.heap[G]? = some (.cells #[v, .pointer none, .string name, .slice none 0 0, .int .i64 depth] 27 (0, 0))) (ho : Own w B v bs) (hg : w.grownBy w1 v.ownBlock) (ho' : Own w1 B v' bs') :
    w1.cell? ⟨G, 0, none⟩ = some v ∧ w1.frozen? ⟨G, 0, none⟩ = false ∧ Gen (w1.setCell ⟨G, 0, none⟩ v') B G bs' name depth ∧ Below B w (w1.setCell ⟨G, 0, none⟩ v') := by
  have hG1 : w1.heap[G]? = some (.cells #[v, .pointer none, .string name, .slice none 0 0, .int .i64 depth] 27 (0, 0)) := (hg.block G (Lib.lt_of_heap hG) (ho.ne hG (by decide))).trans hG
  refine ⟨Lib.cell_of_heap hG1 0, Lib.frozen_of_heap hG1 0, ⟨hBG, v', by simpa using Lib.heap_setCell_same (i := 0) hG1 v', ?_⟩, (ho.grown hB hg).setCell (p := ⟨G, 0, none⟩) hBG _⟩
  exact World.ownsRow.kept ho' (Lib.grownBy_setCell w1 G 0 v') (.inr (fun e => ho'.ne hG1 (by decide) e.symm))
end Go.Proofs.Ybulkahym
