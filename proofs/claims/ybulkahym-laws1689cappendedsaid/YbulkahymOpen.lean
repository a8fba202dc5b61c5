/-
  A slice of options that came in, opened: what the walks are told of it ('IsOpts').
-/
import Derived.Test.YbulkahymFirst
import Derived.ProofKit
import Derived.OpenShut
import Derived.Deep.Slices
namespace Go.Proofs.Ybulkahym
open Go.ChangeShapes Go.WideShapes Go.RowKit Go.Deep

theorem cells31 : Yba.prog.cellsOf 31 = 1 := by kernel_rfl
theorem cells33 : Yba.prog.cellsOf 33 = 4 := by kernel_rfl
theorem cells5 : Yba.prog.cellsOf 5 = 1 := by kernel_rfl
theorem cells9 : Yba.prog.cellsOf 9 = 1 := by kernel_rfl
theorem cells4 : Yba.prog.cellsOf 4 = 1 := by kernel_rfl

theorem opts_of_trod {H : Type} {enc : TypeId × Value → H} {W : World} {sp : Nat → Bool} {fuel : Nat} {a : Option Addr} {len cap : Nat} {x : DataW H × List MemPlace}
    (h : DataW.trod enc Yba.prog W 0 sp true fuel 31 [.slice a len cap] = some x) :
    len ≤ maxLen ∧ ∃ (sh : Nat → Int) (lg : Nat → ByteArray) (tv en : Nat → Bool), IsOpts W a len sh lg tv en := by
  rcases open_slice Yba.underlying31 h with ⟨hcs, _⟩ | ⟨a', len', cap', m, n, D, Pl, hcs, _, hl, hm, hmm, _, hx⟩
  · simp only [List.cons.injEq, Value.slice.injEq, and_true] at hcs
    obtain ⟨rfl, rfl, rfl⟩ := hcs
    exact ⟨Nat.zero_le _, fun _ => 0, fun _ => ByteArray.empty, fun _ => false, fun _ => false, .inl rfl⟩
  simp only [List.cons.injEq, Value.slice.injEq, and_true] at hcs
  obtain ⟨rfl, rfl, rfl⟩ := hcs
  refine ⟨Nat.le_trans hl hm, ?_⟩
  have hlm : len ≤ m := by rw [hmm]; split <;> omega
  by_cases h0 : len = 0
  · exact ⟨fun _ => 0, fun _ => ByteArray.empty, fun _ => false, fun _ => false, .inl h0⟩
  rw [cells33] at hx
  have each : ∀ i, i < len → ∃ y : Int × ByteArray × Bool × Bool, W.cell? ((a'.add (i * 4)).add 0) = some (.int .u8 y.1) ∧ W.cell? ((a'.add (i * 4)).add 1) = some (.string y.2.1) ∧ W.cell? ((a'.add (i * 4)).add 2) = some (.bool y.2.2.1) ∧ W.cell? ((a'.add (i * 4)).add 3) = some (.bool y.2.2.2) := by
    intro i hi
    obtain ⟨cs', h1, h2⟩ := hx i (by omega)
    obtain ⟨_, hlen, hc⟩ := World.cells?_some h1
    obtain ⟨xs, n', _, _, _, hxl, hf⟩ := DataW.trod_struct Yba.underlying33 h2
    match cs', hlen with
    | [c0, c1, c2, c3], _ =>
    match xs, hxl with
    | [x0, x1, x2, x3], _ =>
    obtain ⟨v0, e0, _, _⟩ := DataW.trod_int Yba.underlying5 (show DataW.trod enc Yba.prog W 0 sp true n' 5 [c0] = some x0 by simpa [cells5] using hf 0 _ rfl)
    obtain ⟨v1, e1, _, _⟩ := DataW.trod_string Yba.underlying9 (show DataW.trod enc Yba.prog W 0 sp true n' 9 [c1] = some x1 by simpa [cells9] using hf 1 _ rfl)
    obtain ⟨v2, e2, _⟩ := DataW.trod_bool Yba.underlying4 (show DataW.trod enc Yba.prog W 0 sp true n' 4 [c2] = some x2 by simpa [cells4] using hf 2 _ rfl)
    obtain ⟨v3, e3, _⟩ := DataW.trod_bool Yba.underlying4 (show DataW.trod enc Yba.prog W 0 sp true n' 4 [c3] = some x3 by simpa [cells4] using hf 3 _ rfl)
    simp only [List.cons.injEq, and_true] at e0 e1 e2 e3
    subst e0 e1 e2 e3
    exact ⟨(v0, v1, v2, v3), hc 0 (by omega), hc 1 (by omega), hc 2 (by omega), hc 3 (by omega)⟩
  obtain ⟨f, hfam⟩ := choose_lt (α := Int × ByteArray × Bool × Bool) each
  obtain ⟨b, off, spot⟩ := a'
  have hspot : spot = none := by simpa [Addr.add] using World.cell?_spot (hfam 0 (by omega)).1
  subst hspot
  refine ⟨fun i => (f i).1, fun i => (f i).2.1, fun i => (f i).2.2.1, fun i => (f i).2.2.2, .inr ⟨b, off, rfl, ?_, fun i hi => ?_⟩⟩
  · have := World.block_lt_of_cell? W _ (hfam 0 (by omega)).1
    simpa [Addr.add] using this
  · obtain ⟨c0, c1, c2, c3⟩ := hfam i hi
    simp only [add_plain] at c0 c1 c2 c3
    exact ⟨c0, c1, c2, c3⟩
end Go.Proofs.Ybulkahym
