/-
  LawS1689CFirstMatch: the walk.
-/
import Derived.Test.YbulkahymFind
namespace Go.Proofs.Ybulkahym
open Go.RowKit

/-- What the walks are told of a slice of options: it has none; or it leads to a row of them. -/
def IsOpts (w : World) (a : Option Addr) (len : Nat) (sh : Nat → Int) (lg : Nat → ByteArray) (tv en : Nat → Bool) : Prop :=
  len = 0 ∨ ∃ b off, a = some ⟨b, off, none⟩ ∧ b < w.heap.size ∧ OptRow w b off len sh lg tv en

theorem find_any (a : Option Addr) (len cap : Nat) (sh : Nat → Int) (lg : Nat → ByteArray) (tv en : Nat → Bool) (name : ByteArray) (w : World) (hn : len ≤ 1025) (h : IsOpts w a len sh lg tv en) :
    Calls Yba.prog 9 #[.slice a len cap, .string name] w fun e w' => ∃ r, e = .returned (.int .i64 r) ∧ FirstIs lg name len r ∧ Below w.heap.size w w' := by
  rcases h with rfl | ⟨b, off, rfl, hb, hrow⟩
  · exact find_none _ _ _ _ _
  · exact find_row _ _ _ _ _ _ _ _ _ _ hn hb hrow

theorem model_any (a : Option Addr) (len cap : Nat) (sh : Nat → Int) (lg : Nat → ByteArray) (tv en : Nat → Bool) (name : ByteArray) (w : World) (hn : len ≤ 1025) (h : IsOpts w a len sh lg tv en) :
    Calls Yba.prog 10 #[.slice a len cap, .string name] w fun e w' => ∃ r, e = .returned (.int .i64 r) ∧ FirstIs lg name len r ∧ w' = w := by
  rcases h with rfl | ⟨b, off, rfl, hb, hrow⟩
  · exact model_none _ _ _ _ _
  · exact model_row _ _ _ _ _ _ _ _ _ _ hn hrow

theorem OptRow.below {w w' : World} {b off n : Nat} {sh : Nat → Int} {lg : Nat → ByteArray} {tv en : Nat → Bool} (h : OptRow w b off n sh lg tv en) (hb : b < w.heap.size) (hbel : Below w.heap.size w w') : OptRow w' b off n sh lg tv en := fun i hi => by
  obtain ⟨c0, c1, c2, c3⟩ := h i hi
  exact ⟨(hbel.cell (p := ⟨b, _, none⟩) hb).trans c0, (hbel.cell (p := ⟨b, _, none⟩) hb).trans c1, (hbel.cell (p := ⟨b, _, none⟩) hb).trans c2, (hbel.cell (p := ⟨b, _, none⟩) hb).trans c3⟩

theorem IsOpts.below {w w' : World} {a : Option Addr} {n : Nat} {sh : Nat → Int} {lg : Nat → ByteArray} {tv en : Nat → Bool} (h : IsOpts w a n sh lg tv en) (hbel : Below w.heap.size w w') : IsOpts w' a n sh lg tv en := by
  rcases h with h | ⟨b, off, ha, hb, hrow⟩
  · exact .inl h
  · exact .inr ⟨b, off, ha, Nat.lt_of_lt_of_le hb hbel.size, hrow.below hb hbel⟩

set_option maxHeartbeats 400000 in
theorem first_walk (a : Option Addr) (len cap : Nat) (sh : Nat → Int) (lg : Nat → ByteArray) (tv en : Nat → Bool) (name : ByteArray) (p : Nat) (hp : p ≤ 255) (use : Bool) (w : World) (hm : len ≤ maxLen) (h : IsOpts w a len sh lg tv en) :
    Calls Yba.prog 4 #[.slice a len cap, .string name, .int .u8 p, .bool use] w fun e w' => e = .returned (.bool true) ∧ Below w.heap.size w w' := by
  unfold maxLen at hm
  by_cases hl : len ≤ 1024
  case neg =>
    go_enter Yba.func4, Yba.ntmps4
    go_wp2
    go_ret
    exact ⟨rfl, Below.refl _ _⟩
  case pos =>
    by_cases hu : use = true ∧ 0 < len
    case neg =>
      have H : Hid (IsOpts w a len sh lg tv en) := h
      clear h
      cases use
      · go_enter Yba.func4, Yba.ntmps4
        go_wp2_with fail
        refine (find_any _ _ _ _ _ _ _ _ _ (by omega) H.out).mono ?_
        rintro e w1 ⟨r, rfl, hr, hb1⟩
        go_wp2_with fail
        refine (model_any _ _ _ _ _ _ _ _ _ (by omega) (H.out.below hb1)).mono ?_
        rintro e w2 ⟨r2, rfl, hr2, rfl⟩
        obtain rfl := hr.same hr2
        go_wp2
        go_ret
        exact ⟨rfl, hb1⟩
      · have hz : len = 0 := by simpa using hu
        subst hz
        go_enter Yba.func4, Yba.ntmps4
        go_wp2_with fail
        refine (find_any _ _ _ _ _ _ _ _ _ (by omega) H.out).mono ?_
        rintro e w1 ⟨r, rfl, hr, hb1⟩
        go_wp2_with fail
        refine (model_any _ _ _ _ _ _ _ _ _ (by omega) (H.out.below hb1)).mono ?_
        rintro e w2 ⟨r2, rfl, hr2, rfl⟩
        obtain rfl := hr.same hr2
        go_wp2
        go_ret
        exact ⟨rfl, hb1⟩
    case pos =>
      obtain ⟨rfl, hpos⟩ := hu
      rcases id h with rfl | ⟨b, off, rfl, hb, hrow⟩
      · omega
      obtain ⟨-, c1, -, -⟩ := hrow (p % len) (Nat.mod_lt _ hpos)
      have H : Hid (IsOpts w (some ⟨b, off, none⟩) len sh lg tv en) := h
      clear h hrow
      have hmod : (p : Int) % (len : Int) < (len : Int) := Int.emod_lt_of_pos _ (by omega)
      have hmod0 : 0 ≤ (p : Int) % (len : Int) := Int.emod_nonneg _ (by omega)
      go_enter Yba.func4, Yba.ntmps4
      go_wp2_with fail
      refine (find_any _ _ _ _ _ _ _ _ _ (by omega) H.out).mono ?_
      rintro e w1 ⟨r, rfl, hr, hb1⟩
      go_wp2_with fail
      refine (model_any _ _ _ _ _ _ _ _ _ (by omega) (H.out.below hb1)).mono ?_
      rintro e w2 ⟨r2, rfl, hr2, rfl⟩
      obtain rfl := hr.same hr2
      go_wp2
      go_ret
      exact ⟨rfl, hb1⟩
end Go.Proofs.Ybulkahym
