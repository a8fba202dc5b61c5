/-
  LawS1686CRepeat: the walk.
-/
import Derived.Test.YbulkahwwDoorLog
namespace Go.Proofs.YbulkahwwDoor
open Go.RowKit Go.MuLone

/-- The cells of a new serverLog. -/
def newLog : Array Value := #[.int .i32 0, .int .u32 0, .slice none 0 0, .int .i64 0, .int .i8 0, .chan none, .bool false]

def newRest (i : Nat) : Option Value := newLog[i]?

theorem newRest_free : Free newRest := rfl

theorem newLog_isBuffer (w : World) : LibA.IsBuffer 40 newRest 5 w.heap.size w.heap.size 2 [] (w.alloc (.cells newLog 40)) := by
  have hg : (w.alloc (.cells newLog 40)).heap[w.heap.size]? = some (.cells newLog 40 (0, 0)) := by
    show (w.heap.push _)[w.heap.size]? = _
    simp
  exact LibA.zero_isBuffer (Nat.le_refl _) (lr := 0) ⟨_, hg, rfl, rfl, rfl, fun _ _ => rfl⟩

theorem append_data (s t : ByteArray) : (s ++ t).data.toList = s.data.toList ++ t.data.toList := by simp

set_option maxHeartbeats 800000 in
set_option maxRecDepth 100000 in
theorem repeat_walk (s t : ByteArray) (w : World) (hs : s.size ≤ maxLen) (ht : t.size ≤ maxLen) :
    Calls Ybad.prog 4 #[.string s, .string t] w fun e w' => e = .returned (.bool true) ∧ Below w.heap.size w w' := by
  unfold maxLen at hs ht
  by_cases hs1 : s.size ≤ 4096
  case neg =>
    go_enter Ybad.func4, Ybad.ntmps4
    go_wp2
    go_ret
    exact ⟨rfl, Below.refl _ _⟩
  by_cases ht1 : t.size ≤ 4096
  case neg =>
    go_enter Ybad.func4, Ybad.ntmps4
    go_wp2
    go_ret
    exact ⟨rfl, Below.refl _ _⟩
  go_enter Ybad.func4, Ybad.ntmps4
  go_wp2_with fail
  refine (Ybad.Buffer_WriteString_at 40 newRest w.heap.size w.heap.size 2 [] s _ (newLog_isBuffer w) (by simp) (by simp) (by simp; omega)).mono ?_
  rintro e w1 ⟨rfl, i1, b1, -⟩
  rw [List.nil_append] at i1
  have bel1 : Below w.heap.size w w1 := ((Below.refl _ _).alloc (Nat.le_refl _) _).trans b1
  clear b1
  go_wp2_with fail
  refine (string_any newRest w.heap.size w.heap.size s _ i1 newRest_free).mono ?_
  rintro e w2 ⟨rfl, i2, b2⟩
  have bel2 := bel1.trans b2
  clear b2 i1 bel1
  go_wp2_with fail
  refine (string_any newRest w.heap.size w.heap.size s _ i2 newRest_free).mono ?_
  rintro e w3 ⟨rfl, i3, b3⟩
  have bel3 := bel2.trans b3
  clear b3 i2 bel2
  go_wp2_with fail
  refine (Ybad.Buffer_WriteString_at 40 newRest w.heap.size w.heap.size 2 _ t _ i3 bel3.size (Lib.byteCells_one _) (by rw [Lib.byteCells_length, ← Lib.size_eq]; omega)).mono ?_
  rintro e w4 ⟨rfl, i4, b4, -⟩
  rw [← Lib.byteCells_append, ← append_data] at i4
  have bel4 := bel3.trans b4
  clear b4 i3 bel3
  go_wp2_with fail
  refine (string_any newRest w.heap.size w.heap.size (s ++ t) _ i4 newRest_free).mono ?_
  rintro e w5 ⟨rfl, i5, b5⟩
  have bel5 := bel4.trans b5
  go_wp2
  go_ret
  exact ⟨rfl, bel5⟩
end Go.Proofs.YbulkahwwDoor
