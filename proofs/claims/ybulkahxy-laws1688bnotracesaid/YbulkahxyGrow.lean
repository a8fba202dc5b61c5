/-
  (*mapBuilder).begin: a new block: what 'm.blocks = append(m.blocks, make([]byte, 0, n))' leaves. No walk.
-/
import Derived.Test.YbulkahxyPack
namespace Go.Proofs.Ybulkahxy
open Go.RowKit

/-- A new block's bytes. -/
def zeros (r : Nat) : Array Value := madeCells #[.int .u8 0] (r * 1)

theorem run_make_bytes (r : Nat) (hr : r ≤ 262144) (w : World) : (Instr.makeSlice 49 (.int .i64 0) (.int .i64 (r : Int))).run Yba.prog w = .ok (.slice (some ⟨w.heap.size, 0, none⟩) 0 r) (w.alloc (.cells (zeros r) 5)) := by
  obtain ⟨i, hi, hz, hs, hb⟩ := info5
  have hby : (i.bytes : Int) * (r : Int) ≤ 281474976710656 := by rw [hb]; omega
  have := run_make (P := Yba.prog) w 49 5 i _ Yba.underlying49 hi hz .i64 .i64 0 (r : Int) (by omega) (by omega) hby (by omega)
  rw [hs, Int.toNat_natCast] at this
  exact this

theorem info49 : ∃ i, Yba.prog.info? 49 = some i ∧ i.zero = some (.slice none 0 0) ∧ i.size = 1 ∧ i.bytes = 24 := by
  have h : (Yba.prog.info? 49).map (fun i => (i.size, i.bytes)) = some (1, 24) := by kernel_rfl
  have hz : (Yba.prog.info? 49).map (·.zero) = some (some (.slice none 0 0)) := by kernel_rfl
  cases hq : Yba.prog.info? 49 with
  | none => rw [hq] at h; cases h
  | some i =>
    rw [hq] at h hz
    simp at h hz
    exact ⟨i, rfl, hz, h.1, h.2⟩

theorem next_any {W : World} {B C : Nat} {cs1 : Array Value} {va : Option Addr} {vc : Nat} {row : List Value} {f held N : Nat} (h : MB W B C cs1 (.slice va row.length vc) row f held N) (hl : row.length ≤ 300) (size : Nat) (X : Int) (hX : X = (size : Int)) (hs : size ≤ 262144) :
    Calls Yba.prog 11 #[.pointer (some ⟨C, 5, none⟩), .int .i64 X] W fun e w' => NextPost size W e w' := by
  subst hX
  have c5 : W.cell? ⟨C, 5, none⟩ = some (.slice va row.length vc) := (h.blk.cell 5).trans h.c5
  by_cases h0 : row.length = 0
  · rw [h0] at c5
    exact next_none C va vc size W c5 hs
  · obtain ⟨R, vc', cur, hvb, hBR, hR, hvc1, hvc2, hcur, htk⟩ := h.formR (by omega)
    injection hvb with e1 e2 e3
    subst e1 e3
    obtain ⟨nb, hnb⟩ : ∃ nb, row.length = nb + 1 := ⟨row.length - 1, by omega⟩
    have hlt : nb < row.length := by omega
    obtain ⟨g, l, cap, bcur, hv, hlc, hcap, hg, hgs, hBg⟩ := h.each (row[nb]) (List.getElem_mem hlt)
    have cr := row_cell hR htk nb hlt
    rw [hv] at cr
    rw [hnb] at c5
    exact next_some C R nb vc size l cap _ W c5 cr hs hcap (by omega)

/-- The world behind the make and the element's slice. -/
def newWorld (W : World) (r : Nat) : World := (W.alloc (.cells (zeros r) 5)).alloc (.cells #[.slice (some ⟨W.heap.size, 0, none⟩) 0 r] 49)

theorem grow_pack {W w1 : World} {B C : Nat} {cs1 : Array Value} {vb v' : Value} {row : List Value} {f held N r : Nat} (h : MB W B C cs1 vb row f held N) (hB : B ≤ W.heap.size) (hr : r ≤ 262144)
    (hgr : (newWorld W r).grownBy w1 vb.ownBlock) (hown : w1.ownsRow B 49 1 v' (row.length + 1) (row ++ [.slice (some ⟨W.heap.size, 0, none⟩) 0 r])) :
    w1.cell? ⟨C, 5, none⟩ = some vb ∧ w1.frozen? ⟨C, 5, none⟩ = false ∧
      MB (w1.setCell ⟨C, 5, none⟩ v') B C (cs1.setIfInBounds 5 v') v' (row ++ [.slice (some ⟨W.heap.size, 0, none⟩) 0 r]) f held (N + 1) ∧ Kept B C W (w1.setCell ⟨C, 5, none⟩ v') := by
  have hk0 : Kept B C W (newWorld W r) := ((Kept.refl B C W).alloc hB _).alloc hB _
  have hszW : W.heap.size < (newWorld W r).heap.size := by simp [newWorld]; omega
  have hCn : CBlk (newWorld W r) C cs1 := ⟨(Below.heap_alloc _ _ _ (by have := h.blk.lt; simp; omega)).trans ((Below.heap_alloc _ _ _ h.blk.lt).trans h.blk.1), h.blk.2⟩
  have hown0 : (newWorld W r).ownsRow B 49 1 vb row.length row := (h.own.alloc _).alloc _
  have hrow : ∀ g, vb.ownBlock = some g → B ≤ g ∧ ∃ c, (newWorld W r).heap[g]? = some (.cells c 49 (0, 0)) := by
    intro g hg
    rcases hown0.2 with ⟨rfl, _⟩ | ⟨g', cap', c, rfl, hBg, hgg, _⟩
    · simp [Value.ownBlock] at hg
    · simp only [Value.ownBlock, Option.some.injEq] at hg
      subst hg
      exact ⟨hBg, c, hgg⟩
  have hk1 : Kept B C W w1 := hk0.grown49 hB hgr hrow
  have hC1 : CBlk w1 C cs1 := ⟨(hgr.block C hCn.lt (fun e => h.row_ne e.symm)).trans hCn.1, hCn.2⟩
  have hz : (newWorld W r).heap[W.heap.size]? = some (.cells (zeros r) 5 (0, 0)) := by
    refine (Below.heap_alloc _ _ _ (by simp)).trans ?_
    show (W.heap.push _)[W.heap.size]? = _
    simp
  have hzne : some W.heap.size ≠ vb.ownBlock := by
    intro e
    have := (World.ownsRow.lt h.own W.heap.size e.symm).2
    omega
  have hz1 : w1.heap[W.heap.size]? = some (.cells (zeros r) 5 (0, 0)) := (hgr.block _ hszW hzne).trans hz
  have hk2 := hk1.set hC1 h.base 5 v'
  have hC2 := hC1.set 5 v'
  have hz2 : (w1.setCell ⟨C, 5, none⟩ v').heap[W.heap.size]? = some (.cells (zeros r) 5 (0, 0)) := (Below.heap_setCell _ _ _ _ (by have := h.blk.lt; show W.heap.size ≠ C; omega)).trans hz1
  have hvC : v'.ownBlock ≠ some C := by
    intro e
    rcases hown.2 with ⟨rfl, _⟩ | ⟨g', cap', c, rfl, _, hgg, _⟩
    · simp [Value.ownBlock] at e
    · simp only [Value.ownBlock, Option.some.injEq] at e
      subst e
      exact blocks_ne hgg hC1.1 (by decide) rfl
  have hlen : (row ++ [Value.slice (some ⟨W.heap.size, 0, none⟩) 0 r]).length = row.length + 1 := by simp
  refine ⟨(hC1.cell 5).trans h.c5, hC1.free 5, ⟨hC2, h.base, get_set_same hC1.2 5 (by decide) _, (get_set_other _ 5 6 (by decide) _).trans h.c6, (get_set_other _ 5 7 (by decide) _).trans h.c7, ?_, ?_, by rw [hlen]; exact Nat.le_succ_of_le h.fill_le, by rw [hlen]; exact Nat.succ_le_succ h.len_le⟩, hk2⟩
  · rw [hlen]
    exact hown.kept (Lib.grownBy_setCell w1 C 5 v') (.inr hvC)
  · intro v hv
    rcases List.mem_append.1 hv with hv | hv
    · exact (h.each v hv).kept hk2
    · obtain rfl := List.mem_singleton.1 hv
      exact ⟨W.heap.size, 0, r, zeros r, rfl, Nat.zero_le _, hr, hz2, by simp [zeros, size_madeCells], hB⟩

/-- The element's slice, as the append reads it. -/
theorem new_cell (W : World) (r : Nat) : ∀ j u, [Value.slice (some ⟨W.heap.size, 0, none⟩) 0 r][j]? = some u → (newWorld W r).cell? ((⟨W.heap.size + 1, 0, none⟩ : Addr).add j) = some u := by
  have hg : (newWorld W r).heap[W.heap.size + 1]? = some (.cells #[.slice (some ⟨W.heap.size, 0, none⟩) 0 r] 49 (0, 0)) := by
    show ((W.heap.push _).push _)[W.heap.size + 1]? = _
    have e : (W.heap.push (Obj.cells (zeros r) 5)).size = W.heap.size + 1 := by simp
    rw [Array.getElem?_push, if_pos e.symm]
  intro j u hj
  exact World.news_of_block hg j u hj
end Go.Proofs.Ybulkahxy
