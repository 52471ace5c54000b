/- DERIVED. strconv.Itoa's contract off the shelf, at this seat's dump, in plain words (as the guide's lay-plain writes it), and what the laws take of it. -/
import Derived.Shelf.LaysM
import Derived.Shelf.Strconv.Itoa3
import Derived.Test.YbulkbwokFmtRows
import Derived.Lib.ItoaNum
import Derived.Lib.ItoaMem
import Derived.Lib.AppendIntMem
import Derived.WalkKit
namespace Go.Proofs
open Go.Shelf
/-- The name of the table that the numeral reads, as the given row has it. -/
def YbulkbwokFmt.tabName : String := YbulkbwokFmt.Rows.lawS3650CQueueRow.named.headD ""
def Ybaf.laysM171_ren : Go.Shelf.Ren := ⟨fun | 171 => 8 | 243 => 12 | 246 => 15 | 283 => 17 | 284 => 18 | 285 => 19 | 286 => 20 | 129 => 22 | 317 => 21 | 318 => 23 | 319 => 24 | 320 => 25 | 337 => 26 | 338 => 27 | n => n, fun | 3 => 3 | 9 => 9 | 2 => 2 | 4 => 4 | 171 => 69 | 0 => 0 | 53 => 70 | 37 => 22 | 5 => 5 | 173 => 73 | 212 => 77 | 51 => 78 | 20 => 20 | 213 => 79 | 46 => 81 | 232 => 84 | 233 => 85 | n => n, fun | 17 => 0 | 18 => 1 | 19 => 2 | n => n⟩
theorem Ybaf.laysM171 : Go.Proofs.LaysM.n171 Ybaf.prog Ybaf.laysM171_ren := {
  mixed := by kernel_rfl
  f129 := Ybaf.func22.trans (congrArg some (by kernel_rfl))
  f171 := Ybaf.func8.trans (congrArg some (by kernel_rfl))
  f243 := Ybaf.func12.trans (congrArg some (by kernel_rfl))
  f246 := Ybaf.func15.trans (congrArg some (by kernel_rfl))
  f283 := Ybaf.func17.trans (congrArg some (by kernel_rfl))
  f284 := Ybaf.func18.trans (congrArg some (by kernel_rfl))
  f285 := Ybaf.func19.trans (congrArg some (by kernel_rfl))
  f286 := Ybaf.func20.trans (congrArg some (by kernel_rfl))
  f317 := Ybaf.func21.trans (congrArg some (by kernel_rfl))
  f318 := Ybaf.func23.trans (congrArg some (by kernel_rfl))
  f319 := Ybaf.func24.trans (congrArg some (by kernel_rfl))
  f320 := Ybaf.func25.trans (congrArg some (by kernel_rfl))
  f337 := Ybaf.func26.trans (congrArg some (by kernel_rfl))
  f338 := Ybaf.func27.trans (congrArg some (by kernel_rfl))
  t0 := Ybaf.underlying0
  a0 := Ybaf.isAgg0
  z0 := Ybaf.sizeOf0
  v0 := Ybaf.zeroValue0
  t2 := Ybaf.underlying2
  a2 := Ybaf.isAgg2
  z2 := Ybaf.sizeOf2
  v2 := Ybaf.zeroValue2
  t3 := Ybaf.underlying3
  a3 := Ybaf.isAgg3
  z3 := Ybaf.sizeOf3
  v3 := Ybaf.zeroValue3
  t4 := Ybaf.underlying4
  a4 := Ybaf.isAgg4
  z4 := Ybaf.sizeOf4
  v4 := Ybaf.zeroValue4
  t5 := Ybaf.underlying5
  a5 := Ybaf.isAgg5
  z5 := Ybaf.sizeOf5
  v5 := Ybaf.zeroValue5
  t9 := Ybaf.underlying9
  a9 := Ybaf.isAgg9
  z9 := Ybaf.sizeOf9
  v9 := Ybaf.zeroValue9
  t20 := Ybaf.underlying20
  a20 := Ybaf.isAgg20
  z20 := Ybaf.sizeOf20
  v20 := Ybaf.zeroValue20
  t37 := Ybaf.underlying22
  a37 := Ybaf.isAgg22
  z37 := Ybaf.sizeOf22
  v37 := Ybaf.zeroValue22
  t46 := Ybaf.underlying81
  a46 := Ybaf.isAgg81
  z46 := Ybaf.sizeOf81
  v46 := Ybaf.zeroValue81
  t51 := Ybaf.underlying78
  a51 := Ybaf.isAgg78
  z51 := Ybaf.sizeOf78
  v51 := Ybaf.zeroValue78
  t53 := Ybaf.underlying70
  a53 := Ybaf.isAgg70
  z53 := Ybaf.sizeOf70
  v53 := Ybaf.zeroValue70
  t171 := Ybaf.underlying69
  a171 := Ybaf.isAgg69
  z171 := Ybaf.sizeOf69
  v171 := Ybaf.zeroValue69
  t173 := Ybaf.underlying73
  a173 := Ybaf.isAgg73
  z173 := Ybaf.sizeOf73
  v173 := Ybaf.zeroValue73
  t212 := Ybaf.underlying77
  a212 := Ybaf.isAgg77
  z212 := Ybaf.sizeOf77
  v212 := Ybaf.zeroValue77
  t213 := Ybaf.underlying79
  a213 := Ybaf.isAgg79
  z213 := Ybaf.sizeOf79
  t232 := Ybaf.underlying84
  a232 := Ybaf.isAgg84
  z232 := Ybaf.sizeOf84
  v232 := Ybaf.zeroValue84
  t233 := Ybaf.underlying85
  a233 := Ybaf.isAgg85
  z233 := Ybaf.sizeOf85
  v233 := Ybaf.zeroValue85
  g17 := by kernel_rfl
  g18 := by kernel_rfl
  g19 := by kernel_rfl
  i0 := by kernel_rfl
  i2 := by kernel_rfl
  i3 := by kernel_rfl
  i4 := by kernel_rfl
  i5 := by kernel_rfl
  i9 := by kernel_rfl
  i20 := by kernel_rfl
  i37 := by kernel_rfl
  i46 := by kernel_rfl
  i51 := by kernel_rfl
  i53 := by kernel_rfl
  i171 := by kernel_rfl
  i173 := by kernel_rfl
  i212 := by kernel_rfl
  i232 := by kernel_rfl
  i233 := by kernel_rfl
  m17 := by kernel_rfl
  m18 := by kernel_rfl
  m19 := by kernel_rfl }
open Go.RowKit Go.Sort Go.Lib in
/-- strconv.Itoa at every int: the decimal numeral. -/
theorem Ybaf.strconv_Itoa (n : Int) (h0 : -9223372036854775808 ≤ n) (h1 : n ≤ 9223372036854775807) (w : World) (htab : Lib.TabIs Ybaf.prog w YbulkbwokFmt.tabName .u64 Lib.pow10Tab) :
    Calls Ybaf.prog 8 #[.int .i64 n] w fun e w' => e = .returned (.string ⟨(Lib.itoa n).toArray⟩) ∧ ∃ k os, w' = grow (w.drewN k) os := Any.strconv_Itoa Ybaf.laysM171 n h0 h1 w htab

namespace YbulkbwokFmt
open Go.Lib Go.RowKit

def valOf (l : List UInt8) : Nat := l.foldl (fun a b => 10 * a + (b.toNat - 48)) 0
theorem valOf_snoc (l : List UInt8) (b : UInt8) : valOf (l ++ [b]) = 10 * valOf l + (b.toNat - 48) := by simp [valOf]
theorem valOf_dec (n : Nat) : ∀ u, u < n → valOf (decDigits u) = u := by
  induction n with
  | zero => intro u hu; omega
  | succ n ih =>
    intro u hu
    by_cases h : u < 10
    · rw [decDigits_one h]
      have : (UInt8.ofNat (48 + u)).toNat = 48 + u := by simp; omega
      show 10 * 0 + ((UInt8.ofNat (48 + u)).toNat - 48) = u
      rw [this]; omega
    · rw [decDigits, dif_neg h, valOf_snoc, ih _ (by omega)]
      have : (UInt8.ofNat (48 + u % 10)).toNat = 48 + u % 10 := by simp; omega
      rw [this]; omega
theorem dec_inj {u v : Nat} (h : decDigits u = decDigits v) : u = v := by
  rw [← valOf_dec (u + 1) u (by omega), ← valOf_dec (v + 1) v (by omega), h]
def itoaB (i : Nat) : ByteArray := ⟨(Lib.itoa (i : Int)).toArray⟩
theorem itoaB_ne {i j : Nat} (h : i ≠ j) : (itoaB i == itoaB j) = false := by
  rw [Bool.eq_false_iff]
  intro e
  rw [beq_toListBytes, beq_iff_eq, ByteArray.toList_eq, ByteArray.toList_eq] at e
  unfold itoaB at e
  rw [Lib.itoa_nonneg, Lib.itoa_nonneg] at e
  exact h (dec_inj (by simpa using e))

theorem itoa_any (n : Nat) (hn : n ≤ 300) (w : World) (htab : Lib.TabIs Ybaf.prog w tabName .u64 Lib.pow10Tab) :
    Calls Ybaf.prog 8 #[.int .i64 n] w fun e w' => e = .returned (.string (itoaB n)) ∧ Below w.heap.size w w' := by
  refine (Ybaf.strconv_Itoa n (by omega) (by omega) w htab).mono ?_
  rintro e w' ⟨rfl, k, os, rfl⟩
  exact ⟨rfl, Lib.below_grow _ w (Nat.le_refl _) k os⟩

end YbulkbwokFmt
end Go.Proofs
