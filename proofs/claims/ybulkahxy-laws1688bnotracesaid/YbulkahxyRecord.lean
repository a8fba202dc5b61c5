/-
  zzs1688brecord: the walk.
-/
import Derived.Test.YbulkahxyRecEq
import Derived.Test.YbulkahxyDec
namespace Go.Proofs.Ybulkahxy
open Go.RowKit

/-- The last record and the reference behind it, as the check reads them. -/
structure RecAt (w : World) (B C : Nat) (cs : Array Value) (vb : Value) (row : List Value) (f off held : Nat) (kb : List UInt8) (ks : List Value) : Prop where
  mb : MB w B C cs vb row f held held
  c8 : cs[8]? = some (.int .u32 ((f : Nat) : Int))
  c9 : cs[9]? = some (.int .u32 ((off : Nat) : Int))
  key : ∀ (j : Nat) (v : Value), ks[j]? = some v → cs[13 + j]? = some v
  lt : f < row.length
  recd : Rec w row f off kb

def RecPost (w : World) (ks : List Value) (e : Ending) (w' : World) : Prop := e = .returned (.bool true) ∧ ∃ n, w' = (w.alloc (.cells ks.toArray 24)).drewN n

set_option maxHeartbeats 800000 in
set_option maxRecDepth 100000 in
theorem rec_any (B C : Nat) (cs : Array Value) (vb : Value) (row : List Value) (f off held : Nat) (kb : List UInt8) (ks : List Value) (k : ByteArray) (w : World) (hks : IsRef ks) (h : RecAt w B C cs vb row f off held kb ks) (hk : k.data.toList = kb) (hL : k.size ≤ 65536) (hh : held ≤ 301) :
    Calls Yba.prog 6 #[.pointer (some ⟨C, 0, none⟩), .string k, .agg ks.toArray, .int .i64 held] w fun e w' => RecPost w ks e w' := by
  have hkl : kb.length = k.size := by rw [← hk]; exact (Lib.size_eq k).symm
  obtain ⟨R, vc, cur, rfl, hBR, hR, hvc1, hvc2, hcur, htk⟩ := h.mb.formR (Nat.lt_of_le_of_lt (Nat.zero_le _) h.lt)
  obtain ⟨g, cap, bc, hrow, hg, hle, hcap, hbytes⟩ := h.recd
  have hrc : w.cell? ⟨R, f, none⟩ = some (.slice (some ⟨g, 0, none⟩) (off + 32 + (Lib.uvarint (kb.length * 2 + 1)).length + kb.length) cap) := by
    rw [row_cell hR htk f h.lt]
    rw [List.getElem?_eq_getElem h.lt] at hrow
    exact hrow
  have hll := h.mb.len_le
  have hflt := h.lt
  have c5 : (w.alloc (.cells ks.toArray 24)).cell? ⟨C, 5, none⟩ = some (.slice (some ⟨R, 0, none⟩) row.length vc) := ((h.mb.blk.alloc _).cell 5).trans h.mb.c5
  have c7 : (w.alloc (.cells ks.toArray 24)).cell? ⟨C, 7, none⟩ = some (.int .i64 held) := ((h.mb.blk.alloc _).cell 7).trans h.mb.c7
  have c8 : (w.alloc (.cells ks.toArray 24)).cell? ⟨C, 8, none⟩ = some (.int .u32 (f : Int)) := ((h.mb.blk.alloc _).cell 8).trans h.c8
  have c9 : (w.alloc (.cells ks.toArray 24)).cell? ⟨C, 9, none⟩ = some (.int .u32 (off : Int)) := ((h.mb.blk.alloc _).cell 9).trans h.c9
  have hrg1 : (w.alloc (.cells ks.toArray 24)).rangeAt C 13 ks := fun j v hv => ((h.mb.blk.alloc _).cell (13 + j)).trans (h.key j v hv)
  have hrg2 : (w.alloc (.cells ks.toArray 24)).rangeAt w.heap.size 0 ks := range_block (heap_alloc_new w _)
  have cR : (w.alloc (.cells ks.toArray 24)).cell? ⟨R, f, none⟩ = some (.slice (some ⟨g, 0, none⟩) (off + 32 + (Lib.uvarint (kb.length * 2 + 1)).length + kb.length) cap) := (World.cell?_alloc_past _ _ _ (Lib.lt_of_heap hR)).trans hrc
  have hg1 : (w.alloc (.cells ks.toArray 24)).heap[g]? = some (.cells bc 5 (0, 0)) := (Below.heap_alloc w _ g (Lib.lt_of_heap hg)).trans hg
  have huv := enc_length (kb.length * 2 + 1) (by omega)
  have hup := Lib.uvarint_pos (kb.length * 2 + 1)
  have hdec := dec_of_enc (kb.length * 2 + 1) kb (by omega)
  have hll2 : (Lib.uvarint (kb.length * 2 + 1) ++ kb).length = (Lib.uvarint (kb.length * 2 + 1)).length + kb.length := List.length_append
  have hcells : ∀ j (hj : j < (Lib.uvarint (kb.length * 2 + 1) ++ kb).length), (w.alloc (.cells ks.toArray 24)).drew.cell? ⟨g, off + 32 + j, none⟩ = some (.int .u8 ((Lib.uvarint (kb.length * 2 + 1) ++ kb)[j]).toNat) := fun j hj => by
    have e : (w.alloc (.cells ks.toArray 24)).drew.cell? ⟨g, off + 32 + j, none⟩ = bc[off + 32 + j]? := Lib.cell_of_heap hg1 _
    rw [e]
    exact hbytes j _ (by rw [Lib.byteCells, List.getElem?_map, List.getElem?_eq_getElem hj]; rfl)
  have hcells2 : ∀ j (hj : j < kb.length), (w.alloc (.cells ks.toArray 24)).drew.cell? ((⟨g, off + 32 + (Lib.uvarint (kb.length * 2 + 1)).length, none⟩ : Addr).add j) = some (.int .u8 (kb[j].toNat : Int)) := fun j hj => by
    rw [Addr.add_lit, Nat.add_assoc (off + 32), hcells _ (by rw [hll2]; omega), List.getElem_append_right (by omega)]
    simp
  have hcv := run_convert_bytes_back (P := Yba.prog) (w.alloc (.cells ks.toArray 24)).drew 49 9 5 ⟨g, off + 32 + (Lib.uvarint (kb.length * 2 + 1)).length, none⟩ (cap - (off + 32) - (Lib.uvarint (kb.length * 2 + 1)).length) kb Yba.underlying49 Yba.underlying5 Yba.underlying9 hcells2
  have hkk : (⟨kb.toArray⟩ : ByteArray) = k := by rw [← hk]
  rw [hkk] at hcv
  have hcv0 : kb.length = 0 → (convert 49 9 (.slice (some ⟨g, off + 32, none⟩) 0 0)).run Yba.prog (w.alloc (.cells ks.toArray 24)).drew = .ok (.string k) (w.alloc (.cells ks.toArray 24)).drew := fun h0 => by
    have h00 := List.eq_nil_of_length_eq_zero h0
    rw [← hkk, h00]
    exact run_convert_bytes_back (P := Yba.prog) (w.alloc (.cells ks.toArray 24)).drew 49 9 5 ⟨g, off + 32, none⟩ 0 [] Yba.underlying49 Yba.underlying5 Yba.underlying9 (fun j hj => by simp at hj)
  have HU := Lib.hid (Yba.binary_Uvarint g (off + 32) ((Lib.uvarint (kb.length * 2 + 1)).length + kb.length) (cap - (off + 32)) _ (w.alloc (.cells ks.toArray 24)).drew hll2 hcells)
  rw [hdec] at HU
  obtain ⟨c', hc'⟩ : ∃ c', cap = off + 32 + ((Lib.uvarint (kb.length * 2 + 1)).length + c') := ⟨cap - (off + 32 + (Lib.uvarint (kb.length * 2 + 1)).length), by omega⟩
  rw [Nat.add_assoc (off + 32)] at cR
  have hor := or_one k.size hL
  clear hbytes hg1 hg hrow hrc h htk hcur hR hdec hll2 hcells hcells2 hkk
  rw [hkl] at *
  generalize (Lib.uvarint (k.size * 2 + 1)).length = u at *
  subst hc'
  have e1 : off + 32 + (u + c') - (off + 32) = u + c' := by omega
  have e2 : u + c' - u = c' := by omega
  rw [e1] at HU hcv
  rw [e2] at hcv
  have HKS := Lib.hid hks
  have hsz : k.size ≤ c' := by omega
  clear hks e1 e2 hkl hk hle
  go_enter Yba.func6, Yba.ntmps6
  go_wp2_with fail
  have hneq : ∀ w, (Op.equalIn 10000 24 (.agg ks.toArray) (.agg ks.toArray)).run Yba.prog w = .ok true w := run_equal_ref ks HKS.out
  have heg := fun (w : World) (op : BinOp) (x y : Operand) => run_eqGuard_agg (P := Yba.prog) w op 24 x y ks.toArray ks.toArray info_guard24
  generalize hW : w.alloc (.cells ks.toArray 24) = W at *
  have hi24 := Lib.hid (show (Yba.prog.info? 24).map (·.size) = some ks.length from info24.trans (by rw [HKS.out.1]))
  refine wp_region_held_drew (S := fun w' => w'.rangeAt C 13 ks ∧ w'.rangeAt w.heap.size 0 ks ∧ w'.cell? ⟨C, 7, none⟩ = some (.int .i64 held)) (by kernel_rfl) ⟨(World.rangeAt_drew _ _ _ _).2 hrg1, (World.rangeAt_drew _ _ _ _).2 hrg2, c7⟩ (fun hHeld => ?_)
  refine wpAnyH_take (i := 0) (oi := ?o0) (v := ?v0) ?h0 (by kernel_rfl) (by kernel_rfl) (by kernel_rfl) ?q0 (Or.inl ⟨?w0, ?y0⟩) hHeld ?r0
  case h0 => (simp only [List.getElem?_toArray, List.getElem?_cons_zero] <;> rfl)
  case q0 => exact fun _ _ _ h => h
  case w0 => rfl
  case y0 => ((intro w hSw; (try dsimp only at hSw); go_simp) <;> with_reducible rfl)
  simp only [Act.put, List.setIfInBounds_toArray, List.set_cons_zero, List.set_cons_succ]
  refine wpAnyH_take (i := 1) (oi := ?o1) (v := ?v1) ?h1 (by kernel_rfl) (by kernel_rfl) (by kernel_rfl) ?q1 (Or.inl ⟨?w1, ?y1⟩) hHeld ?r1
  case h1 => (simp only [List.getElem?_toArray, List.getElem?_cons_zero, List.getElem?_cons_succ] <;> rfl)
  case q1 => exact fun _ _ _ h => h
  case w1 => rfl
  case y1 => ((intro w hSw; (try dsimp only at hSw); go_simp) <;> with_reducible rfl)
  simp only [Act.put, List.setIfInBounds_toArray, List.set_cons_zero, List.set_cons_succ]
  refine wpAnyH_take (i := 2) (oi := ?o2) (v := ?v2) ?h2 (by kernel_rfl) (by kernel_rfl) (by kernel_rfl) ?q2 (Or.inl ⟨?w2, ?y2⟩) hHeld ?r2
  case h2 => (simp only [List.getElem?_toArray, List.getElem?_cons_zero, List.getElem?_cons_succ] <;> rfl)
  case q2 => exact fun _ _ _ h => h
  case w2 => rfl
  case y2 => ((intro w hSw; (try dsimp only at hSw); go_simp) <;> with_reducible rfl)
  simp only [Act.put, List.setIfInBounds_toArray, List.set_cons_zero, List.set_cons_succ]
  refine wpAnyH_take (i := 3) (oi := ?o3) (v := ?v3) ?h3 (by kernel_rfl) (by kernel_rfl) (by kernel_rfl) ?q3 (Or.inl ⟨?w3, ?y3⟩) hHeld ?r3
  case h3 => (simp only [List.getElem?_toArray, List.getElem?_cons_zero, List.getElem?_cons_succ] <;> rfl)
  case q3 => exact fun _ _ _ h => h
  case w3 => rfl
  case y3 => ((intro w hSw; (try dsimp only at hSw); go_simp) <;> with_reducible rfl)
  simp only [Act.put, List.setIfInBounds_toArray, List.set_cons_zero, List.set_cons_succ]
  refine wpAnyH_take (i := 4) (oi := ?o4) (v := .agg ks.toArray) ?h4 (by kernel_rfl) (by kernel_rfl) (by kernel_rfl) ?q4 ?y4 hHeld ?r4
  case h4 => (simp only [List.getElem?_toArray, List.getElem?_cons_zero, List.getElem?_cons_succ] <;> rfl)
  case q4 => exact fun _ _ _ h => h
  case y4 => exact yieldsIf_load_mid (by rfl) 24 _ rfl C 13 rfl ks _ (fun _ h => h.1) Yba.underlying24 rfl hi24.out
  simp only [Act.put, List.setIfInBounds_toArray, List.set_cons_zero, List.set_cons_succ]
  refine wpAnyH_take (i := 5) (oi := ?o5) (v := .agg ks.toArray) ?h5 (by kernel_rfl) (by kernel_rfl) (by kernel_rfl) ?q5 ?y5 hHeld ?r5
  case h5 => (simp only [List.getElem?_toArray, List.getElem?_cons_zero, List.getElem?_cons_succ] <;> rfl)
  case q5 => exact fun _ _ _ h => h
  case y5 => exact yieldsIf_load_mid (by rfl) 24 _ rfl w.heap.size 0 rfl ks _ (fun _ h => h.2.1) Yba.underlying24 rfl hi24.out
  simp only [Act.put, List.setIfInBounds_toArray, List.set_cons_zero, List.set_cons_succ]
  refine wpAnyH_take (i := 6) (oi := ?o6) (v := ?v6) ?h6 (by kernel_rfl) (by kernel_rfl) (by kernel_rfl) ?q6 (Or.inl ⟨?w6, ?y6⟩) hHeld ?r6
  case h6 => (simp only [List.getElem?_toArray, List.getElem?_cons_zero, List.getElem?_cons_succ] <;> rfl)
  case q6 => exact fun _ _ _ h => h
  case w6 => rfl
  case y6 => ((intro w hSw; (try dsimp only at hSw); go_simp) <;> with_reducible rfl)
  simp only [Act.put, List.setIfInBounds_toArray, List.set_cons_zero, List.set_cons_succ]
  refine wpAnyH_take (i := 7) (oi := ?o7) (v := ?v7) ?h7 (by kernel_rfl) (by kernel_rfl) (by kernel_rfl) ?q7 (Or.inl ⟨?w7, ?y7⟩) hHeld ?r7
  case h7 => (simp only [List.getElem?_toArray, List.getElem?_cons_zero, List.getElem?_cons_succ] <;> rfl)
  case q7 => exact fun _ _ _ h => h
  case w7 => rfl
  case y7 => ((intro w hSw; (try dsimp only at hSw); go_simp) <;> with_reducible rfl)
  simp only [Act.put, List.setIfInBounds_toArray, List.set_cons_zero, List.set_cons_succ]
  refine wpAnyH_take (i := 8) (oi := ?o8) (v := ?v8) ?h8 (by kernel_rfl) (by kernel_rfl) (by kernel_rfl) ?q8 (Or.inl ⟨?w8, ?y8⟩) hHeld ?r8
  case h8 => (simp only [List.getElem?_toArray, List.getElem?_cons_zero, List.getElem?_cons_succ] <;> rfl)
  case q8 => exact fun _ _ _ h => h
  case w8 => rfl
  case y8 => ((intro w hSw; (try dsimp only at hSw); go_simp) <;> with_reducible rfl)
  simp only [Act.put, List.setIfInBounds_toArray, List.set_cons_zero, List.set_cons_succ]
  refine wpAnyH_take (i := 9) (oi := ?o9) (v := ?v9) ?h9 (by kernel_rfl) (by kernel_rfl) (by kernel_rfl) ?q9 (Or.inl ⟨?w9, ?y9⟩) hHeld ?r9
  case h9 => (simp only [List.getElem?_toArray, List.getElem?_cons_zero, List.getElem?_cons_succ] <;> rfl)
  case q9 => exact fun _ _ _ h => h
  case w9 => rfl
  case y9 => ((intro w hSw; (try dsimp only at hSw); go_simp) <;> with_reducible rfl)
  simp only [Act.put, List.setIfInBounds_toArray, List.set_cons_zero, List.set_cons_succ]
  refine wpAnyH_take (i := 10) (oi := ?o10) (v := ?v10) ?h10 (by kernel_rfl) (by kernel_rfl) (by kernel_rfl) ?q10 (Or.inl ⟨?w10, ?y10⟩) hHeld ?r10
  case h10 => (simp only [List.getElem?_toArray, List.getElem?_cons_zero, List.getElem?_cons_succ] <;> rfl)
  case q10 => exact fun _ _ _ h => h
  case w10 => rfl
  case y10 => ((intro w hSw; (try dsimp only at hSw); go_simp) <;> with_reducible rfl)
  simp only [Act.put, List.setIfInBounds_toArray, List.set_cons_zero, List.set_cons_succ]
  refine wpAnyH_take (i := 11) (oi := ?o11) (v := ?v11) ?h11 (by kernel_rfl) (by kernel_rfl) (by kernel_rfl) ?q11 (Or.inl ⟨?w11, ?y11⟩) hHeld ?r11
  case h11 => (simp only [List.getElem?_toArray, List.getElem?_cons_zero, List.getElem?_cons_succ] <;> rfl)
  case q11 => exact fun _ _ _ h => h
  case w11 => rfl
  case y11 => ((intro w hSw; (try dsimp only at hSw); go_simp) <;> with_reducible rfl)
  simp only [Act.put, List.setIfInBounds_toArray, List.set_cons_zero, List.set_cons_succ]
  refine wpAnyH_take (i := 12) (oi := ?o12) (v := ?v12) ?h12 (by kernel_rfl) (by kernel_rfl) (by kernel_rfl) ?q12 (Or.inl ⟨?w12, ?y12⟩) hHeld ?r12
  case h12 => (simp only [List.getElem?_toArray, List.getElem?_cons_zero, List.getElem?_cons_succ] <;> rfl)
  case q12 => exact fun _ _ _ h => h
  case w12 => rfl
  case y12 => ((intro w hSw; (try dsimp only at hSw); go_simp) <;> with_reducible rfl)
  simp only [Act.put, List.setIfInBounds_toArray, List.set_cons_zero, List.set_cons_succ]
  refine wpAnyH_take (i := 13) (oi := ?o13) (v := ?v13) ?h13 (by kernel_rfl) (by kernel_rfl) (by kernel_rfl) ?q13 (Or.inl ⟨?w13, ?y13⟩) hHeld ?r13
  case h13 => (simp only [List.getElem?_toArray, List.getElem?_cons_zero, List.getElem?_cons_succ] <;> rfl)
  case q13 => exact fun _ _ _ h => h
  case w13 => rfl
  case y13 => ((intro w hSw; (try dsimp only at hSw); go_simp) <;> with_reducible rfl)
  simp only [Act.put, List.setIfInBounds_toArray, List.set_cons_zero, List.set_cons_succ]
  refine wpAnyH_take (i := 14) (oi := ?o14) (v := ?v14) ?h14 (by kernel_rfl) (by kernel_rfl) (by kernel_rfl) ?q14 (Or.inl ⟨?w14, ?y14⟩) hHeld ?r14
  case h14 => (simp only [List.getElem?_toArray, List.getElem?_cons_zero, List.getElem?_cons_succ] <;> rfl)
  case q14 => exact fun _ _ _ h => h
  case w14 => rfl
  case y14 => ((intro w hSw; (try dsimp only at hSw); go_simp) <;> with_reducible rfl)
  simp only [Act.put, List.setIfInBounds_toArray, List.set_cons_zero, List.set_cons_succ]
  refine wpAnyH_take (i := 15) (oi := ?o15) (v := ?v15) ?h15 (by kernel_rfl) (by kernel_rfl) (by kernel_rfl) ?q15 (Or.inl ⟨?w15, ?y15⟩) hHeld ?r15
  case h15 => (simp only [List.getElem?_toArray, List.getElem?_cons_zero, List.getElem?_cons_succ] <;> rfl)
  case q15 => exact fun _ _ _ h => h
  case w15 => rfl
  case y15 => ((intro w hSw; (try dsimp only at hSw); go_simp) <;> with_reducible rfl)
  simp only [Act.put, List.setIfInBounds_toArray, List.set_cons_zero, List.set_cons_succ]
  refine wpAnyH_done (by kernel_rfl) ?_ _
  clear hneq heg hi24 hrg1 hrg2 hHeld c7
  go_wp2_with fail
  refine HU.out.mono ?_
  rintro e w' ⟨rfl, rfl⟩
  clear HU
  by_cases hc0 : c' = 0
  · have hk0 : k.size = 0 := by omega
    have hcv1 := hcv0 hk0
    clear hcv hcv0
    rw [hk0] at *
    subst hc0
    go_wp2_with fail
    go_ret
    exact ⟨rfl, 1, by rw [hW]; rfl⟩
  · clear hcv0
    go_wp2_with fail
    go_ret
    exact ⟨rfl, 1, by rw [hW]; rfl⟩
end Go.Proofs.Ybulkahxy
