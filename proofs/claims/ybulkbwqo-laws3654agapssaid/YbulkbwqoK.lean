/- DERIVED. One append to the Buffer. -/
import Derived.Test.YbulkbwqoF
namespace Go.Proofs.Ybulkbwqo
open Go.RowKit

section
variable {B Bb Lb Pb Ib wd : Nat} {gf v lg : Value} {l : List UInt8} {k : Nat} {X : Option Addr} {n cap : Nat} {w : World}
/-- 'b.Buf = append(b.Buf, c)', in a region that draws. -/
theorem Run.byte (h : Run B Bb Lb Pb Ib wd gf v lg l k X n cap w) (c : UInt8) (hl : l.length ≤ 10000000) :
    ∃ x m q w', (Builtin.append_ #[22, 22] 22 #[v, .slice (some ⟨w.heap.size, 0, none⟩) 1 1]).run Yba.prog (w.drew.alloc (.cells #[.int .u8 c.toNat] 5)) = .ok (.slice x m q) w' ∧ w'.cell? ⟨Bb, 0, none⟩ = some v ∧ w'.frozen? ⟨Bb, 0, none⟩ = false ∧
      Run B Bb Lb Pb Ib wd gf (.slice x m q) lg (l ++ [c]) k X n cap (w'.setCell ⟨Bb, 0, none⟩ (.slice x m q)) ∧ Stp B [5, 37] w (w'.setCell ⟨Bb, 0, none⟩ (.slice x m q)) := by
  obtain ⟨v1, w1, hr1, o1, S1⟩ := app1 B v l c.toNat c rfl w.drew h.buf.lt h.buf.own.drew (by omega)
  obtain ⟨x, m, q, rfl⟩ := owns_slice o1
  have b1 := S1.ofDrew.fr _ _ _ (by decide) h.buf.blk
  obtain ⟨r2, S2⟩ := h.put S1.ofDrew o1
  exact ⟨x, m, q, w1, hr1, by simp [World.cell?, b1], by simp [World.frozen?, b1], r2, S2⟩
/-- 'b.Buf = append(b.Buf, s...)'. -/
theorem Run.text (h : Run B Bb Lb Pb Ib wd gf v lg l k X n cap w) (s : ByteArray) (hl : l.length + s.size ≤ 10000000) :
    ∃ x m q w', (Builtin.append_ #[22, 9] 22 #[v, .string s]).run Yba.prog w = .ok (.slice x m q) w' ∧ w'.cell? ⟨Bb, 0, none⟩ = some v ∧ w'.frozen? ⟨Bb, 0, none⟩ = false ∧
      Run B Bb Lb Pb Ib wd gf (.slice x m q) lg (l ++ s.data.toList) k X n cap (w'.setCell ⟨Bb, 0, none⟩ (.slice x m q)) ∧ Stp B [5, 37] w (w'.setCell ⟨Bb, 0, none⟩ (.slice x m q)) := by
  obtain ⟨v1, w1, hr1, o1, S1⟩ := app_str B v l s w h.buf.lt h.buf.own (by omega)
  obtain ⟨x, m, q, rfl⟩ := owns_slice o1
  have b1 := S1.fr _ _ _ (by decide) h.buf.blk
  obtain ⟨r2, S2⟩ := h.put S1 o1
  exact ⟨x, m, q, w1, hr1, by simp [World.cell?, b1], by simp [World.frozen?, b1], r2, S2⟩
end
abbrev T4 : List TypeId := [5, 37, 3, 38]
theorem Stp.up4 {B : Nat} {a b : World} (h : Stp B [5, 37] a b) : Stp B T4 a b := h.mono (Nat.le_refl _) (by simp)

end Go.Proofs.Ybulkbwqo
