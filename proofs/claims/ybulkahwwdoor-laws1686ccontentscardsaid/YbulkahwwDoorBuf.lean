/-
  DERIVED: THE SHELF's CONTRACTS AT THIS DUMP, IN PLAIN WORDS (tools/lay-plain.mjs out of 'YbulkahwwDoorBuf.lean', which tools/lay-shelf.mjs wrote): THE SAME DECLARATIONS UNDER THE SAME NAMES: 'import', 'namespace', 'open', 'def', 'theorem' AND NOTHING ELSE: no command of the shelf's: FOR A HAND-IN. Each laying: the table of numbers ('.._ren') and one theorem, a field a fact of the dump's own or the kernel's comparison; each contract: ONE APPLICATION.
-/
import Derived.Shelf.Bytes.WriteStringAt
import Derived.Shelf.Bytes.StringAt
import Derived.Shelf.Bytes.LenAt
import Derived.Lib.BufferAt
import Derived.Test.YbulkahwwDoorProg
namespace Go.Proofs
open Go.Shelf
def Ybad.laysAt178_ren : Go.Shelf.Ren := ⟨fun | 178 => 10 | 251 => 15 | 252 => 16 | 181 => 7 | 184 => 25 | 290 => 26 | 324 => 30 | n => n, fun | 130 => 50 | 9 => 9 | 3 => 3 | 75 => 46 | 0 => 0 | 93 => 37 | 91 => 35 | 131 => 52 | 4 => 4 | 37 => 33 | 20 => 20 | 80 => 41 | 5 => 5 | n => n, fun | 14 => 0 | n => n⟩
theorem Ybad.laysAt178 : Go.Proofs.LaysM.n178 Ybad.prog Ybad.laysAt178_ren := {
  mixed := by kernel_rfl
  f178 := Ybad.func10.trans (congrArg some (by kernel_rfl))
  f181 := Ybad.func7.trans (congrArg some (by kernel_rfl))
  f184 := Ybad.func25.trans (congrArg some (by kernel_rfl))
  f251 := Ybad.func15.trans (congrArg some (by kernel_rfl))
  f252 := Ybad.func16.trans (congrArg some (by kernel_rfl))
  f290 := Ybad.func26.trans (congrArg some (by kernel_rfl))
  f324 := Ybad.func30.trans (congrArg some (by kernel_rfl))
  t0 := Ybad.underlying0
  a0 := Ybad.isAgg0
  z0 := Ybad.sizeOf0
  v0 := Ybad.zeroValue0
  t3 := Ybad.underlying3
  a3 := Ybad.isAgg3
  z3 := Ybad.sizeOf3
  v3 := Ybad.zeroValue3
  t4 := Ybad.underlying4
  a4 := Ybad.isAgg4
  z4 := Ybad.sizeOf4
  v4 := Ybad.zeroValue4
  t9 := Ybad.underlying9
  a9 := Ybad.isAgg9
  z9 := Ybad.sizeOf9
  v9 := Ybad.zeroValue9
  t20 := Ybad.underlying20
  a20 := Ybad.isAgg20
  z20 := Ybad.sizeOf20
  v20 := Ybad.zeroValue20
  t37 := Ybad.underlying33
  a37 := Ybad.isAgg33
  z37 := Ybad.sizeOf33
  v37 := Ybad.zeroValue33
  t75 := Ybad.underlying46
  a75 := Ybad.isAgg46
  z75 := Ybad.sizeOf46
  v75 := Ybad.zeroValue46
  t91 := Ybad.underlying35
  a91 := Ybad.isAgg35
  z91 := Ybad.sizeOf35
  v91 := Ybad.zeroValue35
  t93 := Ybad.underlying37
  a93 := Ybad.isAgg37
  z93 := Ybad.sizeOf37
  v93 := Ybad.zeroValue37
  t130 := Ybad.underlying50
  a130 := Ybad.isAgg50
  z130 := Ybad.sizeOf50
  v130 := Ybad.zeroValue50
  t131 := Ybad.underlying52
  a131 := Ybad.isAgg52
  z131 := Ybad.sizeOf52
  v131 := Ybad.zeroValue52
  g14 := by kernel_rfl
  t5 := Ybad.underlying5
  a5 := Ybad.isAgg5
  z5 := Ybad.sizeOf5
  v5 := Ybad.zeroValue5
  t80 := Ybad.underlying41
  a80 := Ybad.isAgg41
  z80 := Ybad.sizeOf41
  v80 := Ybad.zeroValue41
  i0 := by kernel_rfl
  i3 := by kernel_rfl
  i4 := by kernel_rfl
  i5 := by kernel_rfl
  i9 := by kernel_rfl
  i20 := by kernel_rfl
  i37 := by kernel_rfl
  i75 := by kernel_rfl
  i80 := by kernel_rfl
  i91 := by kernel_rfl
  i93 := by kernel_rfl
  i130 := by kernel_rfl
  i131 := by kernel_rfl
  m14 := by kernel_rfl }
def Ybad.laysAt181_ren : Go.Shelf.Ren := ⟨fun | 181 => 7 | n => n, fun | 130 => 50 | 3 => 3 | 0 => 0 | 93 => 37 | 37 => 33 | 91 => 35 | 5 => 5 | n => n, fun | n => n⟩
theorem Ybad.laysAt181 : Go.Proofs.LaysM.n181 Ybad.prog Ybad.laysAt181_ren := {
  mixed := by kernel_rfl
  f181 := Ybad.func7.trans (congrArg some (by kernel_rfl))
  t0 := Ybad.underlying0
  a0 := Ybad.isAgg0
  z0 := Ybad.sizeOf0
  v0 := Ybad.zeroValue0
  t3 := Ybad.underlying3
  a3 := Ybad.isAgg3
  z3 := Ybad.sizeOf3
  v3 := Ybad.zeroValue3
  t37 := Ybad.underlying33
  a37 := Ybad.isAgg33
  z37 := Ybad.sizeOf33
  v37 := Ybad.zeroValue33
  t93 := Ybad.underlying37
  a93 := Ybad.isAgg37
  z93 := Ybad.sizeOf37
  v93 := Ybad.zeroValue37
  t130 := Ybad.underlying50
  a130 := Ybad.isAgg50
  z130 := Ybad.sizeOf50
  v130 := Ybad.zeroValue50
  t5 := Ybad.underlying5
  a5 := Ybad.isAgg5
  z5 := Ybad.sizeOf5
  v5 := Ybad.zeroValue5
  t91 := Ybad.underlying35
  a91 := Ybad.isAgg35
  z91 := Ybad.sizeOf35
  v91 := Ybad.zeroValue35
  i0 := by kernel_rfl
  i3 := by kernel_rfl
  i5 := by kernel_rfl
  i37 := by kernel_rfl
  i91 := by kernel_rfl
  i93 := by kernel_rfl
  i130 := by kernel_rfl }
def Ybad.laysAt182_ren : Go.Shelf.Ren := ⟨fun | 182 => 12 | n => n, fun | 130 => 50 | 9 => 9 | 4 => 4 | 0 => 0 | 93 => 37 | 37 => 33 | 3 => 3 | 91 => 35 | 5 => 5 | n => n, fun | n => n⟩
theorem Ybad.laysAt182 : Go.Proofs.LaysM.n182 Ybad.prog Ybad.laysAt182_ren := {
  mixed := by kernel_rfl
  f182 := Ybad.func12.trans (congrArg some (by kernel_rfl))
  t0 := Ybad.underlying0
  a0 := Ybad.isAgg0
  z0 := Ybad.sizeOf0
  v0 := Ybad.zeroValue0
  t3 := Ybad.underlying3
  a3 := Ybad.isAgg3
  z3 := Ybad.sizeOf3
  v3 := Ybad.zeroValue3
  t4 := Ybad.underlying4
  a4 := Ybad.isAgg4
  z4 := Ybad.sizeOf4
  v4 := Ybad.zeroValue4
  t9 := Ybad.underlying9
  a9 := Ybad.isAgg9
  z9 := Ybad.sizeOf9
  v9 := Ybad.zeroValue9
  t37 := Ybad.underlying33
  a37 := Ybad.isAgg33
  z37 := Ybad.sizeOf33
  v37 := Ybad.zeroValue33
  t93 := Ybad.underlying37
  a93 := Ybad.isAgg37
  z93 := Ybad.sizeOf37
  v93 := Ybad.zeroValue37
  t130 := Ybad.underlying50
  a130 := Ybad.isAgg50
  z130 := Ybad.sizeOf50
  v130 := Ybad.zeroValue50
  t5 := Ybad.underlying5
  a5 := Ybad.isAgg5
  z5 := Ybad.sizeOf5
  v5 := Ybad.zeroValue5
  t91 := Ybad.underlying35
  a91 := Ybad.isAgg35
  z91 := Ybad.sizeOf35
  v91 := Ybad.zeroValue35
  i0 := by kernel_rfl
  i3 := by kernel_rfl
  i4 := by kernel_rfl
  i5 := by kernel_rfl
  i9 := by kernel_rfl
  i37 := by kernel_rfl
  i91 := by kernel_rfl
  i93 := by kernel_rfl
  i130 := by kernel_rfl }
theorem Ybad.Buffer_WriteString_at (T : TypeId) (R : Nat → Option Value) (B b q : Nat) (bs : List Value) (s : ByteArray) (w : World) (h : LibA.IsBuffer T R 5 B b q bs w) (hBw : B ≤ w.heap.size) (h1 : ∀ v ∈ bs, v.oneCell' = true) (hlim : bs.length + s.size ≤ 140737488355328) :
    Calls Ybad.prog 10 #[.pointer (some ⟨b, q, none⟩), .string s] w fun e w' => e = .returned (.tuple #[.int .i64 s.size, .nilIface]) ∧ LibA.IsBuffer T R 5 B b q (bs ++ Lib.byteCells s.data.toList) w' ∧ RowKit.Below B w w' ∧ Lib.OthersKept 5 (some b) w w' := Any.Buffer_WriteString_at Ybad.laysAt178 T R B b q bs s w h hBw h1 hlim
theorem Ybad.Buffer_Len_at (T : TypeId) (R : Nat → Option Value) (B b q : Nat) (bs : List Value) (w : World) (h : LibA.IsBuffer T R 5 B b q bs w) :
    Calls Ybad.prog 7 #[.pointer (some ⟨b, q, none⟩)] w fun e w' => e = .returned (.int .i64 bs.length) ∧ ∃ n, w' = w.drewN n := Any.Buffer_Len_at Ybad.laysAt181 T R B b q bs w h
theorem Ybad.Buffer_String_at (T : TypeId) (R : Nat → Option Value) (B b q : Nat) (l : List UInt8) (w : World) (h : LibA.IsBuffer T R 5 B b q (Lib.byteCells l) w) :
    Calls Ybad.prog 12 #[.pointer (some ⟨b, q, none⟩)] w fun e w' => e = .returned (.string ⟨l.toArray⟩) ∧ ∃ n, w' = w.drewN n := Any.Buffer_String_at Ybad.laysAt182 T R B b q l w h
end Go.Proofs
