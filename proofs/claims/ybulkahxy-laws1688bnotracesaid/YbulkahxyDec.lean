/-
  DERIVED: THE SHELF's CONTRACTS AT THIS DUMP, IN PLAIN WORDS (tools/lay-plain.mjs out of 'YbulkahxyDec.lean', which tools/lay-shelf.mjs wrote): THE SAME DECLARATIONS UNDER THE SAME NAMES: 'import', 'namespace', 'open', 'def', 'theorem' AND NOTHING ELSE: no command of the shelf's: FOR A HAND-IN. Each laying: the table of numbers ('.._ren') and one theorem, a field a fact of the dump's own or the kernel's comparison; each contract: ONE APPLICATION.
-/
import Derived.Shelf.Bin.Uvarint
import Derived.Lib.Varint
import Derived.Lib.VarintMem
import Derived.Test.YbulkahxyProg
namespace Go.Proofs
open Go.Shelf
def Yba.lays45_ren : Go.Shelf.Ren := ⟨fun | 45 => 9 | n => n, fun | 22 => 49 | 33 => 32 | 3 => 3 | 45 => 56 | 0 => 0 | 5 => 5 | 4 => 4 | n => n, fun | n => n⟩
theorem Yba.lays45 : Go.Proofs.LaysBin.n45 Yba.prog Yba.lays45_ren := {
  mixed := by kernel_rfl
  f45 := Yba.func9.trans (congrArg some (by kernel_rfl))
  t0 := Yba.underlying0
  a0 := Yba.isAgg0
  z0 := Yba.sizeOf0
  v0 := Yba.zeroValue0
  i0 := by kernel_rfl
  t3 := Yba.underlying3
  a3 := Yba.isAgg3
  z3 := Yba.sizeOf3
  v3 := Yba.zeroValue3
  i3 := by kernel_rfl
  t4 := Yba.underlying4
  a4 := Yba.isAgg4
  z4 := Yba.sizeOf4
  v4 := Yba.zeroValue4
  i4 := by kernel_rfl
  t5 := Yba.underlying5
  a5 := Yba.isAgg5
  z5 := Yba.sizeOf5
  v5 := Yba.zeroValue5
  i5 := by kernel_rfl
  t22 := Yba.underlying49
  a22 := Yba.isAgg49
  z22 := Yba.sizeOf49
  v22 := Yba.zeroValue49
  i22 := by kernel_rfl
  t33 := Yba.underlying32
  a33 := Yba.isAgg32
  z33 := Yba.sizeOf32
  v33 := Yba.zeroValue32
  i33 := by kernel_rfl
  t45 := Yba.underlying56
  a45 := Yba.isAgg56
  z45 := Yba.sizeOf56
  v45 := Yba.zeroValue56
  i45 := by kernel_rfl }
theorem Yba.binary_Uvarint (g o n c : Nat) (l : List UInt8) (w : World) (hl : l.length = n) (hcell : ∀ j (hj : j < l.length), w.cell? ⟨g, o + j, none⟩ = some (.int .u8 (l[j]).toNat)) :
    Calls Yba.prog 9 #[.slice (some ⟨g, o, none⟩) n c] w fun e w' => e = .returned (.tuple #[.int .u64 (Lib.uvarintDec l).1, .int .i64 (Lib.uvarintDec l).2]) ∧ w' = w := Any.binary_Uvarint Yba.lays45 g o n c l w hl hcell
end Go.Proofs

namespace Go.Proofs.Ybulkahxy
/-- What was encoded is decoded, whatever lies behind it (up to nine bytes). -/
theorem dec_enc : ∀ (k x i acc : Nat) (rest : List UInt8), x < 128 ^ (k + 1) → i + k + 1 ≤ 9 →
    Lib.uvarintFrom i acc (Lib.uvarint x ++ rest) = (acc + x * 2 ^ (7 * i), (i : Int) + (Lib.uvarint x).length)
  | 0, x, i, acc, rest, hx, hi => by
    have hx' : x < 128 := by simpa using hx
    rw [Lib.uvarint_small hx']
    have e : (x.toUInt8).toNat = x := Lib.toUInt8_toNat (by omega)
    have h10 : ¬ i = 10 := by omega
    have h9 : ¬ (i = 9 ∧ 1 < x) := by omega
    simp [Lib.uvarintFrom, e, hx', h10, h9]
  | k + 1, x, i, acc, rest, hx, hi => by
    by_cases hs : x < 128
    · rw [Lib.uvarint_small hs]
      have e : (x.toUInt8).toNat = x := Lib.toUInt8_toNat (by omega)
      have h10 : ¬ i = 10 := by omega
      have h9 : ¬ (i = 9 ∧ 1 < x) := by omega
      simp [Lib.uvarintFrom, e, hs, h10, h9]
    · rw [Lib.uvarint_big (by omega), List.cons_append]
      have e : ((x % 128 + 128).toUInt8).toNat = x % 128 + 128 := Lib.toUInt8_toNat (by omega)
      have h10 : ¬ i = 10 := by omega
      have hb : ¬ (x % 128 + 128 < 128) := by omega
      have hd : x / 128 < 128 ^ (k + 1) := by rw [Nat.pow_succ] at hx; exact Nat.div_lt_of_lt_mul (by rw [Nat.mul_comm]; exact hx)
      have ih := dec_enc k (x / 128) (i + 1) (acc + x % 128 * 2 ^ (7 * i)) rest hd (by omega)
      have em : (x % 128 + 128) % 128 = x % 128 := by omega
      rw [Lib.uvarintFrom, if_neg h10, e, if_neg hb, em, ih]
      have ep : 2 ^ (7 * (i + 1)) = 128 * 2 ^ (7 * i) := by rw [Nat.mul_add, Nat.pow_add, Nat.mul_comm]
      refine Prod.ext ?_ ?_
      · show acc + x % 128 * 2 ^ (7 * i) + x / 128 * 2 ^ (7 * (i + 1)) = acc + x * 2 ^ (7 * i)
        rw [ep, ← Nat.mul_assoc, Nat.add_assoc, ← Nat.add_mul]
        congr 2
        omega
      · show ((i + 1 : Nat) : Int) + ((Lib.uvarint (x / 128)).length : Int) = (i : Int) + ((_ :: Lib.uvarint (x / 128)).length : Int)
        rw [List.length_cons]
        omega

theorem dec_of_enc (x : Nat) (rest : List UInt8) (hx : x < 268435456) : Lib.uvarintDec (Lib.uvarint x ++ rest) = (x, ((Lib.uvarint x).length : Int)) := by
  have := dec_enc 3 x 0 0 rest (by simpa using hx) (by decide)
  rw [Lib.uvarintDec, this]
  simp

theorem enc_length (x : Nat) (hx : x < 268435456) : (Lib.uvarint x).length ≤ 4 := Lib.uvarint_length 3 x (by simpa using hx)
end Go.Proofs.Ybulkahxy
