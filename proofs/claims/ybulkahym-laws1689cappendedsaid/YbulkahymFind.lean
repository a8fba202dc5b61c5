/-
  findLong and zzs1689cmodel: their contracts over a row of options (4 cells each; the long name is the second).
-/
import Derived.Test.YbulkahymRows
import Derived.WalkKit
import Derived.WalkSpells
import Derived.WalkLawsBesides
namespace Go.Proofs.Ybulkahym
open Go.RowKit

/-- r is the first index below n whose name is 'name', which is not empty; else -1. -/
def FirstIs (lg : Nat → ByteArray) (name : ByteArray) (n : Nat) (r : Int) : Prop :=
  (∃ k : Nat, k < n ∧ r = (k : Int) ∧ name.toList ≠ [] ∧ (lg k).toList = name.toList ∧ ∀ j, j < k → (lg j).toList ≠ name.toList) ∨
  (r = -1 ∧ (name.toList = [] ∨ ∀ j, j < n → (lg j).toList ≠ name.toList))

theorem FirstIs.same {lg : Nat → ByteArray} {name : ByteArray} {n : Nat} {r s : Int} (hr : FirstIs lg name n r) (hs : FirstIs lg name n s) : r = s := by
  rcases hr with ⟨k, hk, rfl, hne, e, hb⟩ | ⟨rfl, h⟩ <;> rcases hs with ⟨k', hk', rfl, hne', e', hb'⟩ | ⟨rfl, h'⟩
  · rcases Nat.lt_trichotomy k k' with hl | rfl | hl
    · exact absurd e (hb' k hl)
    · rfl
    · exact absurd e' (hb k' hl)
  · rcases h' with h' | h'
    · exact absurd h' hne
    · exact absurd e (h' k hk)
  · rcases h with h | h
    · exact absurd h hne'
    · exact absurd e' (h k' hk')
  · rfl

/-- No index below k answers. -/
def NoneBefore (lg : Nat → ByteArray) (name : ByteArray) (k : Nat) : Prop := ∀ j, j < k → name.toList = [] ∨ (lg j).toList ≠ name.toList

theorem NoneBefore.zero (lg : Nat → ByteArray) (name : ByteArray) : NoneBefore lg name 0 := fun _ hj => absurd hj (Nat.not_lt_zero _)
theorem NoneBefore.snoc {lg : Nat → ByteArray} {name : ByteArray} {k : Nat} (h : NoneBefore lg name k) (hk : name.toList = [] ∨ (lg k).toList ≠ name.toList) : NoneBefore lg name (k + 1) := fun j hj => by
  by_cases e : j = k
  · subst e; exact hk
  · exact h j (by omega)
theorem NoneBefore.empty {lg : Nat → ByteArray} {name : ByteArray} {k : Nat} (h : NoneBefore lg name k) (he : (lg k).toList = []) : NoneBefore lg name (k + 1) := h.snoc (by
  by_cases hn : name.toList = []
  · exact .inl hn
  · exact .inr (by rw [he]; exact fun e => hn e.symm))
theorem NoneBefore.other {lg : Nat → ByteArray} {name : ByteArray} {k : Nat} (h : NoneBefore lg name k) (hne : ¬ (lg k).toList = []) (ho : (!(lg k).toList.isEmpty) = false ∨ ((lg k).toList == name.toList) = false) : NoneBefore lg name (k + 1) := h.snoc (by
  rcases ho with ho | ho
  · simp at ho; exact absurd ho hne
  · exact .inr (by simpa using ho))
theorem NoneBefore.all {lg : Nat → ByteArray} {name : ByteArray} {n : Nat} (h : NoneBefore lg name n) : FirstIs lg name n (-1) := .inr ⟨rfl, by
  by_cases hn : name.toList = []
  · exact .inl hn
  · exact .inr fun j hj => (h j hj).resolve_left hn⟩
theorem NoneBefore.here {lg : Nat → ByteArray} {name : ByteArray} {k n : Nat} (h : NoneBefore lg name k) (hk : k < n) (hne : name.toList ≠ []) (e : (lg k).toList = name.toList) : FirstIs lg name n k := .inl ⟨k, hk, rfl, hne, e, fun j hj => (h j hj).resolve_left hne⟩
theorem NoneBefore.hit {lg : Nat → ByteArray} {name : ByteArray} {k n : Nat} (h : NoneBefore lg name k) (hk : k < n) (hne : ¬ (lg k).toList = []) (e : (!(lg k).toList.isEmpty) = true ∧ ((lg k).toList == name.toList) = true) : FirstIs lg name n k := by
  have e2 : (lg k).toList = name.toList := by simpa using e.2
  exact h.here hk (by rw [← e2]; exact hne) e2

/-- The cells of n options from ⟨b, off⟩ on. -/
def OptRow (w : World) (b off n : Nat) (sh : Nat → Int) (lg : Nat → ByteArray) (tv en : Nat → Bool) : Prop :=
  ∀ i, i < n → w.cell? ⟨b, off + i * 4, none⟩ = some (.int .u8 (sh i)) ∧ w.cell? ⟨b, off + i * 4 + 1, none⟩ = some (.string (lg i)) ∧ w.cell? ⟨b, off + i * 4 + 2, none⟩ = some (.bool (tv i)) ∧ w.cell? ⟨b, off + i * 4 + 3, none⟩ = some (.bool (en i))

set_option maxHeartbeats 400000 in
theorem find_row (b off n cap : Nat) (sh : Nat → Int) (lg : Nat → ByteArray) (tv en : Nat → Bool) (name : ByteArray) (w : World) (hn : n ≤ 1025) (hb : b < w.heap.size) (hrow : OptRow w b off n sh lg tv en) :
    Calls Yba.prog 9 #[.slice (some ⟨b, off, none⟩) n cap, .string name] w fun e w' => ∃ r, e = .returned (.int .i64 r) ∧ FirstIs lg name n r ∧ Below w.heap.size w w' := by
  go_enter Yba.func9, Yba.ntmps9
  go_wp2
  go_loopw [9] (fun i wr => ∃ k : Nat, k ≤ n ∧ i = .int .i64 k ∧ NoneBefore lg name k ∧ Below w.heap.size w wr) (fun i _ => n - (intOf i).toNat)
  case atStart => exact ⟨0, Nat.zero_le _, rfl, NoneBefore.zero _ _, Below.refl _ _⟩
  case round =>
    obtain ⟨k, hk, rfl, hbef, hbel⟩ := hrel
    by_cases hlt : k < n
    · obtain ⟨c0, c1, c2, c3⟩ := hrow k hlt
      rw [← hbel.cell (p := ⟨b, off + k * 4, none⟩) hb] at c0
      rw [← hbel.cell (p := ⟨b, off + k * 4 + 1, none⟩) hb] at c1
      rw [← hbel.cell (p := ⟨b, off + k * 4 + 2, none⟩) hb] at c2
      rw [← hbel.cell (p := ⟨b, off + k * 4 + 3, none⟩) hb] at c3
      have hsz := hbel.size
      go_wp2
      · go_roundw
        case rel => exact ⟨k + 1, by omega, by go_num, hbef.empty (by assumption), hbel.alloc hsz _⟩
        case measure => simp [intOf]; omega
      · go_ret
        exact ⟨_, rfl, hbef.hit hlt (by assumption) (by assumption), hbel.alloc hsz _⟩
      · go_roundw
        case rel => exact ⟨k + 1, by omega, by go_num, hbef.other (by assumption) (by assumption), hbel.alloc hsz _⟩
        case measure => simp [intOf]; omega
    · have e : k = n := by omega
      subst e
      go_wp2
      go_ret
      exact ⟨_, rfl, hbef.all, hbel⟩

set_option maxHeartbeats 400000 in
/-- A slice of no option (nil too). -/
theorem find_none (a : Option Addr) (cap : Nat) (lg : Nat → ByteArray) (name : ByteArray) (w : World) :
    Calls Yba.prog 9 #[.slice a 0 cap, .string name] w fun e w' => ∃ r, e = .returned (.int .i64 r) ∧ FirstIs lg name 0 r ∧ Below w.heap.size w w' := by
  go_enter Yba.func9, Yba.ntmps9
  go_wp2
  refine wp_loop_rounds 1 ?_
  rw [rounds_succ]
  go_wp2
  go_ret
  exact ⟨_, rfl, (NoneBefore.zero lg name).all, Below.refl _ _⟩

set_option maxHeartbeats 400000 in
theorem model_row (b off n cap : Nat) (sh : Nat → Int) (lg : Nat → ByteArray) (tv en : Nat → Bool) (name : ByteArray) (w : World) (hn : n ≤ 1025) (hrow : OptRow w b off n sh lg tv en) :
    Calls Yba.prog 10 #[.slice (some ⟨b, off, none⟩) n cap, .string name] w fun e w' => ∃ r, e = .returned (.int .i64 r) ∧ FirstIs lg name n r ∧ w' = w := by
  by_cases hne : name.toList = []
  · have hne' : name.toList.isEmpty = true := by simpa using hne
    go_enter Yba.func10, Yba.ntmps10
    go_wp2
    go_ret
    exact ⟨_, rfl, .inr ⟨rfl, .inl hne⟩, rfl⟩
  · have hne' : name.toList.isEmpty = false := by simpa using hne
    go_enter Yba.func10, Yba.ntmps10
    go_wp2
    go_loop [5] (fun i => ∃ k : Nat, k ≤ n ∧ i = .int .i64 k ∧ NoneBefore lg name k) (fun i => n - (intOf i).toNat)
    case atStart => exact ⟨0, Nat.zero_le _, rfl, NoneBefore.zero _ _⟩
    case round =>
      obtain ⟨k, hk, rfl, hbef⟩ := hrel
      by_cases hlt : k < n
      · obtain ⟨c0, c1, c2, c3⟩ := hrow k hlt
        go_wp2
        · have e : ((lg k).toList == name.toList) = true := by assumption
          go_ret
          exact ⟨_, rfl, hbef.here hlt hne (by simpa using e), rfl⟩
        · have e : ((lg k).toList == name.toList) = false := by assumption
          go_round
          case rel => exact ⟨k + 1, by omega, by go_num, hbef.snoc (.inr (by simpa using e))⟩
          case measure => simp [intOf]; omega
      · have e : k = n := by omega
        subst e
        go_wp2
        go_ret
        exact ⟨_, rfl, hbef.all, rfl⟩

set_option maxHeartbeats 400000 in
theorem model_none (a : Option Addr) (cap : Nat) (lg : Nat → ByteArray) (name : ByteArray) (w : World) :
    Calls Yba.prog 10 #[.slice a 0 cap, .string name] w fun e w' => ∃ r, e = .returned (.int .i64 r) ∧ FirstIs lg name 0 r ∧ w' = w := by
  by_cases hne : name.toList = []
  · have hne' : name.toList.isEmpty = true := by simpa using hne
    go_enter Yba.func10, Yba.ntmps10
    go_wp2
    go_ret
    exact ⟨_, rfl, .inr ⟨rfl, .inl hne⟩, rfl⟩
  · have hne' : name.toList.isEmpty = false := by simpa using hne
    go_enter Yba.func10, Yba.ntmps10
    go_wp2
    refine wp_loop_rounds 1 ?_
    rw [rounds_succ]
    go_wp2
    go_ret
    exact ⟨_, rfl, (NoneBefore.zero lg name).all, rfl⟩
end Go.Proofs.Ybulkahym
