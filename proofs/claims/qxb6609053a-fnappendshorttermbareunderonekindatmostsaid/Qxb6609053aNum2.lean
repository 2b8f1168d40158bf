/-
  zzNumberKind (12), whatever the text; and the law that scanNumber and zzNumberKind agree, in the walks' words.
-/
import Derived.Test.Qxb6609053aNumA
import Derived.Test.Qxb6609053aNumB
import Derived.Test.Qxb6609053aNumC
import Derived.Test.Qxb6609053aNumD
namespace Go.Proofs.Qxb6609053a
open Go.RowKit

/-- The datatype's number of a text: 0: it is no number. -/
def kind (s : ByteArray) : Nat := Pl.numKindT (tl s)

theorem num_any (s : ByteArray) (w : World) (hs : s.size ≤ 1048576) :
    Calls Try.prog 12 #[.string s] w fun e w' => e = .returned (.string (dtS (kind s))) ∧ w' = w := by
  by_cases hp : 0 < s.size
  · have ht := txt_drop s 0 hp
    rw [List.drop_zero] at ht
    cases h43 : ((s[0].toNat : Int) == 43)
    · cases h45 : ((s[0].toNat : Int) == 45)
      · exact num_plain s w hs hp h43 h45 (by show _ = _; rw [ht]; simp [Pl.sgn, isS_not h43 h45])
      · exact num_minus s w hs hp h43 h45 (by show _ = _; rw [ht]; simp [Pl.sgn, isS_of (.inr h45)])
    · exact num_plus s w hs hp h43 (by show _ = _; rw [ht]; simp [Pl.sgn, isS_of (.inl h43)])
  · exact num_empty s w (by omega)

theorem sgn_le (l : List UInt8) : Pl.sgn l ≤ l.length := by
  cases l with
  | nil => simp [Pl.sgn]
  | cons d l => simp only [Pl.sgn, List.length_cons]; split <;> omega

/-- THE LAW: the whole text is a number of the kind k just where scanNumber reads all of it as one of that kind. -/
theorem kind_scan (s : ByteArray) : kind s = if (scanR s).1 = s.size then (scanR s).2 else 0 := by
  have hl : (tl s).length = s.size - Pl.sgn (txt s) := by unfold tl; rw [List.length_drop, txt_length]
  have hsg := sgn_le (txt s)
  rw [txt_length] at hsg
  unfold kind
  rw [Pl.lawT]
  unfold scanR
  show (if (Pl.scanT (tl s)).2 ≠ 0 ∧ (Pl.scanT (tl s)).1 = (tl s).length then (Pl.scanT (tl s)).2 else 0) = _
  have e : (txt s).drop (Pl.sgn (txt s)) = tl s := rfl
  rw [e, hl]
  by_cases h0 : (Pl.scanT (tl s)).2 = 0
  · rw [if_pos h0, if_neg (by simp [h0])]
    split <;> rfl
  · rw [if_neg h0]
    by_cases h1 : (Pl.scanT (tl s)).1 = s.size - Pl.sgn (txt s)
    · rw [if_pos ⟨h0, h1⟩, if_pos (by show Pl.sgn (txt s) + (Pl.scanT (tl s)).1 = s.size; omega)]
    · rw [if_neg (fun h => h1 h.2), if_neg (by show ¬ Pl.sgn (txt s) + (Pl.scanT (tl s)).1 = s.size; omega)]

theorem numKindT_le (t : List UInt8) : Pl.numKindT t ≤ 3 := by
  unfold Pl.numKindT Pl.kindOf
  split
  · omega
  · split
    · split <;> split <;> omega
    · split
      · split <;> omega
      · omega
theorem kind_le (s : ByteArray) : kind s ≤ 3 := numKindT_le _
end Go.Proofs.Qxb6609053a
