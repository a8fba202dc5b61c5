/-
  LawS1686CContents: the walk.
-/
import Derived.Test.YbulkahwwDoorBuild
import Derived.Test.YbulkahwwDoorTry
namespace Go.Proofs.YbulkahwwDoor
open Go.RowKit Go.MuLone

/-- What the walks are told of the parts: there are none; or they lie in a row. -/
def IsParts (w : World) (a : Option Addr) (n : Nat) (ss : Nat → ByteArray) : Prop := n = 0 ∨ ∃ b off, a = some ⟨b, off, none⟩ ∧ b < w.heap.size ∧ PartsRow w b off n ss

set_option maxHeartbeats 800000 in
set_option maxRecDepth 100000 in
theorem build_none (a : Option Addr) (cap : Nat) (ss : Nat → ByteArray) (w : World) :
    Calls Ybad.prog 5 #[.slice a 0 cap] w fun e w' => e = .returned (.tuple #[.pointer (some ⟨w.heap.size, 0, none⟩), .string (joined ss 0)]) ∧
      LibA.IsBuffer 40 newRest 5 w.heap.size w.heap.size 2 (Lib.byteCells (joined ss 0).data.toList) w' ∧ Below w.heap.size w w' := by
  go_enter Ybad.func5, Ybad.ntmps5
  go_wp2
  refine wp_loop_rounds 1 ?_
  rw [rounds_succ]
  go_wp2
  go_ret2
  exact ⟨rfl, newLog_isBuffer w, (Below.refl _ _).alloc (Nat.le_refl _) _⟩

theorem build_any (a : Option Addr) (n cap : Nat) (ss : Nat → ByteArray) (w : World) (hn : n ≤ 256) (h : IsParts w a n ss) (hs : ∀ i, i < n → (ss i).size ≤ 4096) :
    Calls Ybad.prog 5 #[.slice a n cap] w fun e w' => e = .returned (.tuple #[.pointer (some ⟨w.heap.size, 0, none⟩), .string (joined ss n)]) ∧
      LibA.IsBuffer 40 newRest 5 w.heap.size w.heap.size 2 (Lib.byteCells (joined ss n).data.toList) w' ∧ Below w.heap.size w w' := by
  rcases h with rfl | ⟨b, off, rfl, hb, hrow⟩
  · exact build_none _ _ _ _
  · exact build_row _ _ _ _ _ _ hn hb hrow hs

/-- What lies behind the first loop. -/
def total (ss : Nat → ByteArray) (k : Nat) : Int := (joined ss k).size

theorem total_succ (ss : Nat → ByteArray) (k : Nat) : total ss (k + 1) = total ss k + (ss k).size := by
  simp [total, joined]

theorem buf_len (T : TypeId) (R : Nat → Option Value) (B b q : Nat) (bs : List Value) (w : World) (h : LibA.IsBuffer T R 5 B b q bs w) (m : Int) (hm : (bs.length : Int) = m) :
    Calls Ybad.prog 7 #[.pointer (some ⟨b, q, none⟩)] w fun e w' => e = .returned (.int .i64 m) ∧ ∃ n, w' = w.drewN n := by
  subst hm
  exact Ybad.Buffer_Len_at T R B b q bs w h

set_option maxHeartbeats 800000 in
set_option maxRecDepth 100000 in
theorem contents_walk (a : Option Addr) (n cap : Nat) (ss : Nat → ByteArray) (found : Bool) (w : World) (hm : n ≤ maxLen) (h : IsParts w a n ss) (hss : ∀ i, i < n → (ss i).size ≤ maxLen) :
    Calls Ybad.prog 3 #[.slice a n cap, .bool found] w fun e w' => e = .returned (.bool true) ∧ Below w.heap.size w w' := by
  unfold maxLen at hm hss
  by_cases hn : n ≤ 256
  case neg =>
    go_enter Ybad.func3, Ybad.ntmps3
    go_wp2
    go_ret
    exact ⟨rfl, Below.refl _ _⟩
  have HP : Hid (IsParts w a n ss) := h
  clear h
  go_enter Ybad.func3, Ybad.ntmps3
  go_wp2
  go_loop [5, 6] (fun t i => ∃ k : Nat, k ≤ n ∧ i = .int .i64 k ∧ t = .int .i64 (total ss k) ∧ ∀ j, j < k → (ss j).size ≤ 4096) (fun _ i => n - (intOf i).toNat)
  case atStart => exact ⟨0, Nat.zero_le _, rfl, rfl, fun _ hj => absurd hj (Nat.not_lt_zero _)⟩
  case round =>
    obtain ⟨k, hk, rfl, rfl, hbef⟩ := hrel
    have htot : 0 ≤ total ss k ∧ total ss k ≤ 4096 * k := by
      have := joined_size ss k hbef k (Nat.le_refl _)
      unfold total
      omega
    by_cases hlt : k < n
    · rcases HP.out with h0 | ⟨b, off, rfl, hb, hrow⟩
      · omega
      have c0 := hrow k hlt
      have hsk := hss k hlt
      clear hrow
      have HS : Hid (total ss (k + 1) = total ss k + (ss k).size) := total_succ ss k
      have HB : Hid (∀ j, j < k → (ss j).size ≤ 4096) := hbef
      clear hbef
      go_wp2
      · go_ret
        exact ⟨rfl, Below.refl _ _⟩
      · have hle : ((ss k).size : Int) ≤ 4096 := by assumption
        go_round
        case rel => exact ⟨k + 1, by omega, by go_num, by rw [HS.out], fun j hj => by
          by_cases e : j = k
          · subst e; omega
          · exact HB.out j (by omega)⟩
        case measure => simp [intOf]; omega
    · have e : k = n := by omega
      subst e
      have HB : Hid (∀ j, j < k → (ss j).size ≤ 4096) := hbef
      clear hbef hss
      go_wp2_with fail
      refine (build_any _ _ _ _ _ hn HP.out HB.out).mono ?_
      rintro e w1 ⟨rfl, i1, b1⟩
      have c6 : w1.cell? ⟨w.heap.size, 6, none⟩ = some (.bool false) := i1.rest 6 (Or.inr (by omega))
      have f6 : w1.frozen? ⟨w.heap.size, 6, none⟩ = false := i1.notFrozen 6
      have i2 := i1.setOther 6 (Or.inr (by omega)) (old := .bool false) rfl (.bool found)
      have b2 := b1.setCell (p := ⟨w.heap.size, 6, none⟩) (Nat.le_refl _) (.bool found)
      obtain ⟨R2, hR2⟩ : ∃ R2 : Nat → Option Value, R2 = (fun j => if j = 6 then some (.bool found) else newRest j) := ⟨_, rfl⟩
      rw [← hR2] at i2
      have hfree : Free R2 := by rw [hR2]; rfl
      have h6 : R2 6 = some (.bool found) := by rw [hR2]; rfl
      have HI : Hid (LibA.IsBuffer 40 R2 5 w.heap.size w.heap.size 2 (Lib.byteCells (joined ss k).data.toList) (w1.setCell ⟨w.heap.size, 6, none⟩ (.bool found))) := i2
      have HBE : Hid (Below w.heap.size w (w1.setCell ⟨w.heap.size, 6, none⟩ (.bool found))) := b2
      clear i1 i2 b1 b2 hR2
      go_wp2_with fail
      refine (string_any R2 w.heap.size w.heap.size (joined ss k) _ HI.out hfree).mono ?_
      rintro e w2 ⟨rfl, i3, b3⟩
      have b3' := HBE.out.trans b3
      have c26 : w2.cell? ⟨w.heap.size, 6, none⟩ = some (.bool found) := (i3.rest 6 (Or.inr (by omega))).trans h6
      clear HI HBE b3 c6 f6
      have hlen : ((Lib.byteCells (joined ss k).data.toList).length : Int) = total ss k := by rw [Lib.byteCells_length, ← Lib.size_eq]; rfl
      have HL : Hid (((Lib.byteCells (joined ss k).data.toList).length : Int) = total ss k) := hlen
      have HI : Hid (LibA.IsBuffer 40 R2 5 w.heap.size w.heap.size 2 (Lib.byteCells (joined ss k).data.toList) w2) := i3
      have HBE : Hid (Below w.heap.size w w2) := b3'
      clear i3 b3' hlen
      go_wp2_with fail
      refine (buf_len 40 R2 w.heap.size w.heap.size 2 _ _ HI.out (total ss k) HL.out).mono ?_
      rintro e w3 ⟨rfl, m, hm3⟩
      have i4 : LibA.IsBuffer 40 R2 5 w.heap.size w.heap.size 2 (Lib.byteCells (joined ss k).data.toList) w3 := by rw [hm3]; exact HI.out.drewN m
      have b4 : Below w.heap.size w w3 := by rw [hm3]; exact below_drewN HBE.out m
      clear hm3 HI HBE HL c26
      have c0 : w3.cell? ⟨w.heap.size, 0, none⟩ = some (.int .i32 0) := (i4.rest 0 (Or.inl (by omega))).trans hfree
      have f0 : w3.frozen? ⟨w.heap.size, 0, none⟩ = false := i4.notFrozen 0
      clear i4
      go_wp2_with fail
      refine (try_free ⟨w.heap.size, 0, none⟩ _ c0 f0).mono ?_
      rintro e w4 ⟨rfl, rfl⟩
      go_wp2_with fail
      refine (unlock_held Ybad.muLib ⟨w.heap.size, 0, none⟩ _ (World.cell?_setCell_same _ _ _ c0) (by simp [f0])).mono ?_
      rintro e w5 ⟨rfl, rfl⟩
      go_wp2
      go_ret
      exact ⟨rfl, (b4.setCell (p := ⟨w.heap.size, 0, none⟩) (Nat.le_refl _) _).setCell (p := ⟨w.heap.size, 0, none⟩) (Nat.le_refl _) _⟩
end Go.Proofs.YbulkahwwDoor
