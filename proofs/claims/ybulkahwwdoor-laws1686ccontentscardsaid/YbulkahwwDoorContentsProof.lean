/-
  Rows.LawS1686CContentsCardSaid, proved: the row's frame round the walk 'contents_walk'; the card by the given tie.
-/
import Derived.Test.YbulkahwwDoorContents
import Derived.Test.YbulkahwwDoorTie
import Derived.Test.YbulkahwwDoorCards
import Derived.ProofKit
import Derived.LaidMore
import Derived.OpenShut
import Derived.ShutString
import Derived.SliceStrings
import Derived.Below
import Derived.ChangeOld
import Derived.Stop.Joined
import Derived.SevenTiedAt
namespace Go.Proofs.YbulkahwwDoor.contentsLaw
open Go.ChangeShapes Go.WideShapes Go.ChangeAt Go.RowKit
open Go.ChangeMaps (open_string shut_string)

theorem laidOut : laidOutB Ybad.prog = true := by kernel_rfl
theorem cells9 : Ybad.prog.cellsOf 9 = 1 := by kernel_rfl

theorem parts_of_trod {H : Type} {enc : TypeId × Value → H} {W : World} {sp : Nat → Bool} {fuel : Nat} {a : Option Addr} {len cap : Nat} {x : DataW H × List MemPlace}
    (h : DataW.trod enc Ybad.prog W 0 sp true fuel 22 [.slice a len cap] = some x) :
    len ≤ maxLen ∧ ∃ ss : Nat → ByteArray, IsParts W a len ss ∧ ∀ i, i < len → (ss i).size ≤ maxLen := by
  rcases open_strings Ybad.underlying22 Ybad.underlying9 cells9 h with ⟨hcs, _⟩ | ⟨a', len', cap', ss, hcs, _, hl, hm, hz, _, hcell, hws⟩
  · simp only [List.cons.injEq, Value.slice.injEq, and_true] at hcs
    obtain ⟨rfl, rfl, rfl⟩ := hcs
    exact ⟨Nat.zero_le _, fun _ => ByteArray.empty, .inl rfl, fun i hi => absurd hi (Nat.not_lt_zero _)⟩
  simp only [List.cons.injEq, Value.slice.injEq, and_true] at hcs
  obtain ⟨rfl, rfl, rfl⟩ := hcs
  have hls : len ≤ ss.length := by rw [hz]; split <;> omega
  refine ⟨Nat.le_trans hl hm, fun i => ss.getD i ByteArray.empty, ?_, fun i hi => ?_⟩
  · by_cases h0 : len = 0
    · exact .inl h0
    obtain ⟨b, off, spot⟩ := a'
    have hspot : spot = none := by simpa [Addr.add] using World.cell?_spot (hcell 0 (by omega))
    subst hspot
    refine .inr ⟨b, off, rfl, ?_, fun i hi => ?_⟩
    · have := World.block_lt_of_cell? W _ (hcell 0 (by omega))
      simpa [Addr.add] using this
    · have := hcell i (by omega)
      rwa [add_plain] at this
  · have hi' : i < ss.length := by omega
    have : ss.getD i ByteArray.empty = ss[i] := by simp [hi']
    show (ss.getD i ByteArray.empty).size ≤ maxLen
    rw [this]
    exact hws _ (List.getElem_mem hi')

theorem own : ownKnob Ybad.prog.godebug = none := by kernel_rfl

/-- The door's own heap meets the condition. -/
theorem door_met (os : Os) (args : Array Value) : laidMetH Ybad.prog Rows.lawS1686CContentsRow.laid ((World.doorLaid Ybad.prog 28 os).forCall (fun _ _ => 0) ⟨#[], args, []⟩).memory :=
  laidMetH_of_parts3 (fuel := 8) (laidMet_of_run' 8 (by kernel_rfl) (by kernel_rfl)) (by kernel_rfl) (by kernel_rfl)

set_option maxRecDepth 100000 in
theorem lifted (os : Os) (started : os.Started) (H : Type) (enc : TypeId × Value → H) :
    ReturnsInHanded {} Ybad.checked os 3 .any (fun w args => (Rows.lawS1686CContentsSpec.pre enc Ybad.prog Ybad.f3 [] false w args ∧ laidMetH Ybad.prog Rows.lawS1686CContentsRow.laid w) ∧ sizedMet enc Ybad.prog Ybad.f3 (OpenSpec.ofChange Rows.lawS1686CContentsSpec) false w args)
      (Rows.lawS1686CContentsSpec.post enc Ybad.prog Ybad.f3 false true false false) := by
  refine returnsInHanded_of_change_and (C := Ybad.checked) (X := fun w _ => laidMetH Ybad.prog Rows.lawS1686CContentsRow.laid w) (fun _ _ _ hh h => h.of_heap hh) own started (by kernel_rfl) Ybad.func3
    (ChangeSpec.witness_shaped (enc := enc) (C := Ybad.checked) (os := os) (X := fun w _ => laidMetH Ybad.prog Rows.lawS1686CContentsRow.laid w) false (World.doorLaid Ybad.prog 28 os) #[.slice none 0 0, .bool false] 8 rfl (World.shaped_of_RefB (by kernel_rfl) (by kernel_rfl)) (by kernel_rfl) (by kernel_rfl) (by kernel_rfl) (door_met os _)) ?_
  intro W base args ds gs before hval0 hW _ _ _ _
  have hval : ∀ (j : Nat) t v, Ybad.f3.params[j]? = some t → args[j]? = some v → Value.okWide Ybad.prog W .any base t v := hval0
  have hW' := hW
  obtain ⟨p, q, hA0, hV, rfl, _, _⟩ := hW
  have hA : DataW.TrodAll enc Ybad.prog W 0 (fun _ => true) true Ybad.f3.params.toList args.toList ds p := hA0
  rw [Ybad.params3] at hA hval
  obtain ⟨v0, v1, d0, d1, p0, p1, rfl, rfl, rfl, h0, h1⟩ := trodAll_two hA
  obtain ⟨rfl, rfl⟩ := trodVars_none hV
  obtain ⟨a0, len0, cap0, rfl⟩ := okWide_slice Ybad.underlying22 (hval 0 22 v0 rfl rfl)
  have k0 := h0
  have lt0 : ∀ x ∈ p0, x.block < W.heap.size := by obtain ⟨m, hm⟩ := k0; exact DataW.trod_lt m _ _ _ hm
  obtain ⟨hlen, ss, hparts, hws⟩ : len0 ≤ maxLen ∧ ∃ ss : Nat → ByteArray, IsParts W a0 len0 ss ∧ ∀ i, i < len0 → (ss i).size ≤ maxLen := by
    obtain ⟨fuel, hf⟩ := h0
    exact parts_of_trod (by simpa [Value.cells] using hf)
  obtain ⟨a1, rfl, rfl, rfl⟩ := open_bool Ybad.underlying4 (hval 1 4 v1 rfl rfl) h1
  clear hA0 hval0
  refine (contents_walk a0 len0 cap0 ss a1 W hlen hparts hws).mono fun e W' ⟨he, bel⟩ => ?_
  subst he
  exact ⟨_, rfl, _, _, _, [], _, [], hW', trodAll_mk1 (shut_bool Ybad.underlying4 _), trodAll_mk2 (Below.trod laidOut (by kernel_rfl) (of_decide_eq_true (by kernel_rfl)) k0 bel lt0) (shut_bool Ybad.underlying4 _), rfl, bel.frame _, fun h => by cases h⟩

theorem over : Rows.LawS1686CContentsSaid :=
  OpenClaim.holds_of_wide 3 Ybad.f3 rfl rfl rfl rfl rfl rfl rfl ⟨rfl, rfl, rfl, rfl, rfl⟩ rfl rfl rfl rfl rfl (by kernel_rfl) Ybad.func3 (by kernel_rfl)
    (of_decide_eq_true (by kernel_rfl)) (by unfold Func.isWrapper; first | (rw [if_pos (by decide +kernel)]; kernel_rfl) | (rw [if_neg (by decide +kernel)]; exact ⟨rfl, rfl⟩))
    (fun os started H enc _ => lifted os started H enc)
end Go.Proofs.YbulkahwwDoor.contentsLaw

namespace Go.Proofs.YbulkahwwDoor
/-- THE STATEMENT: the tied card. -/
theorem contents_card_proved : Rows.LawS1686CContentsCardSaid :=
  Claim7.holds_tied_plain_at .later [] [.sentinel] true (true, "c6e52c4505558fe20e892b8d85597f2f0eb436f1d3d40774611d20033e5575ca") false
    contentsLaw.over (fun _ h => by cases h) (by kernel_rfl) (fun _ h => by cases h) lawS1686CContents_row_tie rfl ⟨rfl, rfl⟩ (by kernel_rfl) rfl
    (fun f fn hf hfn => by
      obtain rfl : f = 3 := Option.some.inj ((show Ybad.prog.funcNamed Rows.lawS1686CContentsRow.func = some 3 by kernel_rfl).symm.trans hf) |>.symm
      obtain rfl : fn = Ybad.f3 := (Option.some.inj (Ybad.func3.symm.trans hfn)).symm
      exact ⟨by kernel_rfl, fun j t ht => by
        rw [Ybad.params3] at ht
        have h9 : t = 22 ∨ t = 4 := by
          rcases j with _ | _ | j
          · exact .inl (by simpa using ht.symm)
          · exact .inr (by simpa using ht.symm)
          · simp at ht
        rcases h9 with rfl | rfl
        · exact (show Ybad.prog.wantsStandIn 22 = false by kernel_rfl)
        · exact (show Ybad.prog.wantsStandIn 4 = false by kernel_rfl)⟩)
    (by kernel_rfl)
end Go.Proofs.YbulkahwwDoor
