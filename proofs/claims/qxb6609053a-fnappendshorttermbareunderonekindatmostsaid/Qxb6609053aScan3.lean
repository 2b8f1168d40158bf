/-
  scanNumber (19), whatever the text.
-/
import Derived.Test.Qxb6609053aScanA
import Derived.Test.Qxb6609053aScanB
import Derived.Test.Qxb6609053aScanC
namespace Go.Proofs.Qxb6609053a
open Go.RowKit

theorem scan_any (s : ByteArray) (w : World) (hs : s.size ≤ 1048576) (hp : 0 < s.size) :
    Calls Try.prog 19 #[.string s] w fun e w' => e = .returned (.tuple #[.int .i64 ((scanR s).1 : Int), .string (dtS (scanR s).2)]) ∧ w' = w := by
  have ht := txt_drop s 0 hp
  rw [List.drop_zero] at ht
  cases h43 : ((s[0].toNat : Int) == 43)
  · cases h45 : ((s[0].toNat : Int) == 45)
    · exact scan_plain s w hs hp h43 h45 (by show _ = _; rw [ht]; simp [Pl.sgn, isS_not h43 h45])
    · exact scan_minus s w hs hp h43 h45 (by show _ = _; rw [ht]; simp [Pl.sgn, isS_of (.inr h45)])
  · exact scan_plus s w hs hp h43 (by show _ = _; rw [ht]; simp [Pl.sgn, isS_of (.inl h43)])
end Go.Proofs.Qxb6609053a
