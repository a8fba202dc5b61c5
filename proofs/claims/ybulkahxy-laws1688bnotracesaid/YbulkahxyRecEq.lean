/-
  Two references of the same bytes are equal.
-/
import Derived.Test.YbulkahxyCKey
import Derived.Laws.StructEq
namespace Go.Proofs.Ybulkahxy
open Go.RowKit

theorem part5 (ks : List Value) (hks : IsRef ks) (i : Nat) (hi : i < 32) (w : World) : ∃ x : Int, (part 5 ks.toArray i).run Yba.prog w = .ok (.int .u8 x) w := by
  have hlt : i < ks.length := by rw [hks.1]; exact hi
  obtain ⟨x, hx⟩ := hks.2 _ (List.getElem_mem hlt)
  refine ⟨x, ?_⟩
  have hg : ks.toArray[i]? = some (.int .u8 x) := by rw [List.getElem?_toArray, List.getElem?_eq_getElem hlt, hx]
  have ha : (isAgg 5).run Yba.prog w = .ok false w := by
    unfold isAgg
    rw [Sem.run_bind, run_underlying Yba.underlying5 w]
    rfl
  unfold part
  rw [Sem.run_bind, ha]
  simp only [Result.andThen_ok, Bool.false_eq_true, if_false, hg, Sem.run_pure]

theorem run_equal_at (d : Nat) (hd : ∀ (x : Int) (w : World), (Op.equalIn d 5 (.int .u8 x) (.int .u8 x)).run Yba.prog w = .ok true w) (ks : List Value) (hks : IsRef ks) (w : World) : (Op.equalIn (d + 1) 24 (.agg ks.toArray) (.agg ks.toArray)).run Yba.prog w = .ok true w := by
  have hs : (sizeOf 5).run Yba.prog w = .ok 1 w := by
    obtain ⟨i, hi, hz, hs, hb⟩ := info5
    simp [sizeOf, typeInfo, hi, hs]
  simp only [Op.equalIn, Sem.run_bind, run_underlying Yba.underlying24, Result.andThen_ok, hs, Nat.mul_one]
  rw [Std.Legacy.Range.forIn_eq_forIn_range']
  have hall : ∀ i ∈ List.range' [:32].start [:32].size [:32].step, i < 32 := by
    intro i hi
    simp at hi
    exact hi
  have key : ∀ l : List Nat, (∀ i ∈ l, i < 32) → Sem.run Yba.prog (forIn l ((none : Option Bool), ()) fun i __s => do
            let __do_lift ← part 5 ks.toArray i
            let __do_lift_1 ← part 5 ks.toArray i
            let __do_lift ← Op.equalIn d 5 __do_lift __do_lift_1
            if (!__do_lift) = true then pure (ForInStep.done (some false, ())) else pure (ForInStep.yield (none, ()))) w = .ok (none, ()) w := by
    intro l
    induction l with
    | nil => intro _; simp
    | cons a l ih =>
      intro hl
      obtain ⟨x, hx⟩ := part5 ks hks a (hl a (by simp)) w
      rw [List.forIn_cons]
      simp only [Sem.run_bind, hx, Result.andThen_ok, hd, Bool.not_true, Bool.false_eq_true, if_false, Sem.run_pure]
      exact ih (fun i hi => hl i (by simp [hi]))
  rw [key _ hall]
  rfl

theorem info_guard24 : Yba.prog.eqGuardType Yba.prog.depth 24 = false := by kernel_rfl

theorem run_equal_ref (ks : List Value) (hks : IsRef ks) (w : World) : (Op.equalIn 10000 24 (.agg ks.toArray) (.agg ks.toArray)).run Yba.prog w = .ok true w :=
  run_equal_at 9999 (fun x w => by
    have := run_equalIn_int (P := Yba.prog) w 9998 5 .u8 .u8 x x Yba.underlying5
    simpa using this) ks hks w
end Go.Proofs.Ybulkahxy
