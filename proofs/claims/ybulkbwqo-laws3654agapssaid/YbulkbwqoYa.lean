/- DERIVED. (*Buffer).Block, one item a line, with the law's Gaps. -/
import Derived.Test.YbulkbwqoU
import Derived.Test.YbulkbwqoX
import Derived.Deep.CutRange
namespace Go.Proofs.Ybulkbwqo
open Go.RowKit

/-- What Block leaves. -/
def BlkPost (g : GB) (B Bb Lb Pb Ib wd : Nat) (T : List UInt8) (k : Nat) (X : Option Addr) (n cap : Nat) (SL : List Value) (w w' : World) : Prop :=
  ∃ v' lg' sv', Run B Bb Lb Pb Ib wd g.fn v' lg' T k X n cap w' ∧ GS g B sv' k SL w' ∧ StX g T4 w w'
theorem StX.up4 {g : GB} {a b : World} (h : StX g [5, 37] a b) : StX g T4 a b := ⟨h.bel, fun i d t h1 h2 h3 h4 hh => h.fr i d t (fun e => h1 (by simp at e; rcases e with rfl | rfl <;> simp [T4])) h2 h3 h4 hh⟩

/-- lineGap past the opening bracket. -/
theorem lineGap_open (B Bb Lb Pb Ib wd : Nat) (gf v lg : Value) (l : List UInt8) (k : Nat) (X : Option Addr) (n cap : Nat) (b2 inner next : Nat) (w : World) (h : Run B Bb Lb Pb Ib wd gf v lg l k X n cap w) (hl : l.length ≤ 9000000)
    (hwd : wd ≤ 4) (hnx : next ≤ 1000) (hb2 : b2 ≤ 2) :
    Calls Yba.prog 20 #[.pointer (some ⟨Bb, 0, none⟩), .agg #[.int .i64 0, .int .i64 0, .int .i64 0, .int .i64 0], .agg #[.int .i64 0, .int .i64 0, .int .i64 0, .int .i64 b2], .int .i64 inner, .int .u8 1, .int .u8 0, .int .i64 next] w
      fun e w' => e = .returned (.tuple #[]) ∧ ∃ v', Run B Bb Lb Pb Ib wd gf v' lg (l ++ nl (min next 16 * wd)) k X n cap w' ∧ Stp B [5, 37] w w' := by
  by_cases hm : b2 < 2
  · exact lineGap_plain B Bb Lb Pb Ib wd gf v lg l k X n cap 0 b2 inner 1 0 next w h hl hwd hnx (by omega) (by omega) (.inl ⟨by omega, hm⟩)
  · exact lineGap_from B Bb Lb Pb Ib wd gf v lg l k X n cap 0 b2 inner next w h hl hwd hnx (by omega) (by omega) hb2

end Go.Proofs.Ybulkbwqo
