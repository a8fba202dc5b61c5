/-
  LawS1689CAppended: the walk.
-/
import Derived.Test.YbulkahymCopy
namespace Go.Proofs.Ybulkahym
open Go.RowKit

theorem FirstIs.of_empty {lg : Nat → ByteArray} {name : ByteArray} {n : Nat} {r : Int} (h : FirstIs lg name n r) (he : name.toList = []) : r = -1 := by
  rcases h with ⟨_, _, _, hne, _⟩ | ⟨rfl, _⟩
  · exact absurd he hne
  · rfl

theorem FirstIs.snoc_hit {lg : Nat → ByteArray} {name : ByteArray} {n : Nat} {r s : Int} (h : FirstIs lg name n r) (h0 : 0 ≤ r) (h' : FirstIs (snocAt lg n name) name (n + 1) s) : s = r := by
  rcases h with ⟨k, hk, rfl, hne, e, hb⟩ | ⟨rfl, _⟩
  · refine h'.same (.inl ⟨k, by omega, rfl, hne, by rw [snocAt_lt _ _ hk]; exact e, fun j hj => by rw [snocAt_lt _ _ (by omega)]; exact hb j hj⟩)
  · omega

theorem FirstIs.snoc_miss {lg : Nat → ByteArray} {name : ByteArray} {n : Nat} {r s : Int} (h : FirstIs lg name n r) (h0 : r < 0) (hne : name.toList ≠ []) (h' : FirstIs (snocAt lg n name) name (n + 1) s) : s = n := by
  rcases h with ⟨k, hk, rfl, _, e, hb⟩ | ⟨rfl, he | he⟩
  · omega
  · exact absurd he hne
  · exact h'.same (.inl ⟨n, by omega, rfl, hne, by rw [snocAt_eq], fun j hj => by rw [snocAt_lt _ _ hj]; exact he j hj⟩)

/-- The store of the new option's name. -/
theorem OptRow.setLast {w : World} {g n : Nat} {sh : Nat → Int} {lg : Nat → ByteArray} {tv en : Nat → Bool} {x name : ByteArray} (h : OptRow w g 0 (n + 1) sh (snocAt lg n x) tv en) :
    OptRow (w.setCell ⟨g, n * 4 + 1, none⟩ (.string name)) g 0 (n + 1) sh (snocAt lg n name) tv en := fun i hi => by
  obtain ⟨c0, c1, c2, c3⟩ := h i hi
  refine ⟨(World.cell?_setCell_other _ _ _ _ (by simp)).trans c0, ?_, (World.cell?_setCell_other _ _ _ _ (by simp)).trans c2, (World.cell?_setCell_other _ _ _ _ (by simp)).trans c3⟩
  by_cases hin : i = n
  · subst hin
    rw [snocAt_eq] at c1 ⊢
    rw [Nat.zero_add] at c1 ⊢
    exact World.cell?_setCell_same _ _ _ c1
  · rw [snocAt_lt _ _ (by omega)] at c1 ⊢
    exact (World.cell?_setCell_other _ _ _ _ (by simp)).trans c1

theorem info33' : ∃ i, Yba.prog.info? 33 = some i ∧ i.zero = some (.agg zeroOpt) ∧ i.size = 4 ∧ i.bytes ≤ 64 := by
  have h : (Yba.prog.info? 33).map (fun i => (i.size, decide (i.bytes ≤ 64))) = some (4, true) := by kernel_rfl
  have hz : (Yba.prog.info? 33).map (·.zero) = some (some (.agg zeroOpt)) := by kernel_rfl
  cases hq : Yba.prog.info? 33 with
  | none => rw [hq] at h; cases h
  | some i =>
    rw [hq] at h hz
    simp at h hz
    exact ⟨i, rfl, hz, h.1, h.2⟩

theorem run_make_opts (n : Nat) (hn : n ≤ 1024) (w : World) : (Instr.makeSlice 31 (.int .i64 ((n : Int) + 1)) (.int .i64 ((n : Int) + 1))).run Yba.prog w = .ok (.slice (some ⟨w.heap.size, 0, none⟩) (n + 1) (n + 1)) (w.alloc (.cells (madeCells zeroOpt ((n + 1) * 4)) 33)) := by
  obtain ⟨i, hi, hz, hs, hb⟩ := info33'
  have h : (i.bytes : Int) * ((n : Int) + 1) ≤ 281474976710656 := by
    have h1 : (i.bytes : Int) ≤ 64 := by exact_mod_cast hb
    have h2 : (i.bytes : Int) * ((n : Int) + 1) ≤ 64 * ((n : Int) + 1) := Int.mul_le_mul_of_nonneg_right h1 (by omega)
    omega
  have := run_make (P := Yba.prog) w 31 33 i _ Yba.underlying31 hi hz .i64 .i64 ((n : Int) + 1) ((n : Int) + 1) (by omega) (by omega) h (by omega)
  rw [hs] at this
  have e : ((n : Int) + 1).toNat = n + 1 := by omega
  rw [e] at this
  exact this

set_option maxHeartbeats 400000 in
theorem appended_walk (a : Option Addr) (n cap : Nat) (sh : Nat → Int) (lg : Nat → ByteArray) (tv en : Nat → Bool) (name : ByteArray) (w : World) (hm : n ≤ maxLen) (h : IsOpts w a n sh lg tv en) :
    Calls Yba.prog 5 #[.slice a n cap, .string name] w fun e w' => e = .returned (.bool true) ∧ Below w.heap.size w w' := by
  unfold maxLen at hm
  by_cases hl : n ≤ 1024
  case neg =>
    go_enter Yba.func5, Yba.ntmps5
    go_wp2
    go_ret
    exact ⟨rfl, Below.refl _ _⟩
  case pos =>
    have hmk := run_make_opts n hl w
    obtain ⟨w2, hcp, hrow, hfz, hbel, hsz⟩ := copy_opts w a n cap sh lg tv en h
    have hrow2 := hrow.setLast (name := name)
    obtain ⟨-, c1, -, -⟩ := hrow n (by omega)
    rw [Nat.zero_add] at c1
    have f1 := hfz (n * 4 + 1)
    have H2 : Hid (IsOpts (w2.setCell ⟨w.heap.size, n * 4 + 1, none⟩ (.string name)) (some ⟨w.heap.size, 0, none⟩) (n + 1) (snocAt sh n 0) (snocAt lg n name) (snocAt tv n false) (snocAt en n false)) := .inr ⟨_, _, rfl, by simp [hsz], hrow2⟩
    have hbel2 : Below w.heap.size w (w2.setCell ⟨w.heap.size, n * 4 + 1, none⟩ (.string name)) := hbel.setCell (p := ⟨w.heap.size, n * 4 + 1, none⟩) (Nat.le_refl _) _
    have H0 : Hid (IsOpts w a n sh lg tv en) := h
    clear h hrow hrow2 hfz
    by_cases hne : name.toList = []
    · have hne' : name.toList.isEmpty = true := by simpa using hne
      have HE : Hid (name.toList = []) := hne
      clear hne
      go_enter Yba.func5, Yba.ntmps5
      go_wp2_with fail
      refine (find_any _ _ _ _ _ _ _ _ _ (by omega) H2.out).mono ?_
      rintro e w3 ⟨r, rfl, hr, hb3⟩
      obtain rfl := hr.of_empty HE.out
      go_wp2
      go_ret
      exact ⟨rfl, hbel2.trans (hb3.mono (by simp [hsz]))⟩
    · have hne' : name.toList.isEmpty = false := by simpa using hne
      have HE : Hid (name.toList ≠ []) := hne
      clear hne
      go_enter Yba.func5, Yba.ntmps5
      go_wp2_with fail
      refine (find_any _ _ _ _ _ _ _ _ _ (by omega) H2.out).mono ?_
      rintro e w3 ⟨r, rfl, hr, hb3⟩
      have hbel3 : Below w.heap.size w w3 := hbel2.trans (hb3.mono (by simp [hsz]))
      go_wp2_with fail
      refine (find_any _ _ _ _ _ _ _ _ _ (by omega) (H0.out.below hbel3)).mono ?_
      rintro e w4 ⟨r0, rfl, hr0, hb4⟩
      have hbel4 : Below w.heap.size w w4 := hbel3.trans (hb4.mono hbel3.size)
      by_cases h0 : 0 ≤ r0
      · obtain rfl := hr0.snoc_hit h0 hr
        clear hr hr0
        go_wp2
        go_ret
        exact ⟨rfl, hbel4⟩
      · obtain rfl := hr0.snoc_miss (by omega) HE.out hr
        clear hr hr0
        go_wp2
        go_ret
        exact ⟨rfl, hbel4⟩
end Go.Proofs.Ybulkahym
