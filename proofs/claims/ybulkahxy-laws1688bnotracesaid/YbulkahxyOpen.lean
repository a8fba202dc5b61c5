/-
  The arguments of the two laws, opened: keys, a reference.
-/
import Derived.Test.YbulkahxyTrace
import Derived.Test.YbulkahxyRows
import Derived.ProofKit
import Derived.OpenShut
import Derived.ShutString
import Derived.SliceStrings
import Derived.ChangeOld
import Derived.Below
namespace Go.Proofs.Ybulkahxy
open Go.ChangeShapes Go.WideShapes Go.ChangeAt Go.RowKit

theorem cells5 : Yba.prog.cellsOf 5 = 1 := by kernel_rfl
theorem cells9 : Yba.prog.cellsOf 9 = 1 := by kernel_rfl
theorem cells24 : Yba.prog.cellsOf 24 = 32 := by kernel_rfl

theorem keys_of_trod {H : Type} {enc : TypeId × Value → H} {W : World} {sp : Nat → Bool} {fuel : Nat} {a : Option Addr} {len cap : Nat} {x : DataW H × List MemPlace}
    (h : DataW.trod enc Yba.prog W 0 sp true fuel 22 [.slice a len cap] = some x) :
    len ≤ maxLen ∧ ∃ ss : Nat → ByteArray, IsKeys W a len ss ∧ ∀ i, i < len → (ss i).size ≤ maxLen := by
  rcases open_strings Yba.underlying22 Yba.underlying9 cells9 h with ⟨hcs, _⟩ | ⟨a', len', cap', ss, hcs, _, hl, hm, hz, _, hcell, hws⟩
  · simp only [List.cons.injEq, Value.slice.injEq, and_true] at hcs
    obtain ⟨rfl, rfl, rfl⟩ := hcs
    exact ⟨Nat.zero_le _, fun _ => ByteArray.empty, .inl rfl, fun i hi => absurd hi (Nat.not_lt_zero _)⟩
  simp only [List.cons.injEq, Value.slice.injEq, and_true] at hcs
  obtain ⟨rfl, rfl, rfl⟩ := hcs
  have hls : len ≤ ss.length := by rw [hz]; split <;> omega
  refine ⟨Nat.le_trans hl hm, fun i => ss.getD i ByteArray.empty, ?_, fun i hi => ?_⟩
  · by_cases h0 : len = 0
    · exact .inl h0
    obtain ⟨b, off, spot⟩ := a'
    have hspot : spot = none := by simpa [Addr.add] using World.cell?_spot (hcell 0 (by omega))
    subst hspot
    refine .inr ⟨b, off, rfl, ?_, fun i hi => ?_⟩
    · have := World.block_lt_of_cell? W _ (hcell 0 (by omega))
      simpa [Addr.add] using this
    · have := hcell i (by omega)
      rwa [Addr.add_lit] at this
  · have hi' : i < ss.length := by omega
    have : ss.getD i ByteArray.empty = ss[i] := by simp [hi']
    show (ss.getD i ByteArray.empty).size ≤ maxLen
    rw [this]
    exact hws _ (List.getElem_mem hi')

theorem ref_of_trod {H : Type} {enc : TypeId × Value → H} {W : World} {sp : Nat → Bool} {fuel : Nat} {cs : Array Value} {x : DataW H × List MemPlace}
    (hs : cs.size = 32) (h : DataW.trod enc Yba.prog W 0 sp true fuel 24 cs.toList = some x) : IsRef cs.toList := by
  obtain ⟨xs, m, _, _, _, hxl, hx⟩ := DataW.trod_array Yba.underlying24 h
  refine ⟨by rw [Array.length_toList]; exact hs, fun v hv => ?_⟩
  obtain ⟨i, hi, rfl⟩ := List.getElem_of_mem hv
  have hi' : i < 32 := by rw [Array.length_toList] at hi; omega
  have e := hx i hi'
  rw [cells5, Nat.mul_one, List.getElem?_eq_getElem (by omega)] at e
  obtain ⟨y, hy, _, _⟩ := DataW.trod_int Yba.underlying5 e
  refine ⟨y, ?_⟩
  have : (cs.toList.drop i).take 1 = [cs.toList[i]] := by
    rw [List.drop_eq_getElem_cons hi]
    rfl
  rw [this] at hy
  simpa using hy

/-- The reference, as it is handed in. -/
theorem open_ref {H : Type} {enc : TypeId × Value → H} {W : World} {sp : Nat → Bool} {b0 : Nat} {v : Value} {d : DataW H} {ps : List MemPlace} (hval : Value.okWide Yba.prog W .any b0 24 v) (hd : DataW.Trod enc Yba.prog W 0 sp true 24 v d ps) :
    ∃ ks : List Value, v = .agg ks.toArray ∧ IsRef ks := by
  unfold Value.okWide at hval
  rw [Yba.underlying24] at hval
  obtain ⟨cs, rfl, hs, _⟩ := hval
  obtain ⟨fuel, hf⟩ := hd
  exact ⟨cs.toList, rfl, ref_of_trod (hs.trans cells24) (by simpa [Value.cells] using hf)⟩
end Go.Proofs.Ybulkahxy
