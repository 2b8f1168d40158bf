/-
  For zzNumberKind (12): the steps of its three loops, in the walk's words; no walk here.
-/
import Derived.Test.Qxb6609053aScan2
namespace Go.Proofs.Qxb6609053a
open Go.RowKit

/-- Behind the sign. -/
def tl (s : ByteArray) : List UInt8 := (txt s).drop (Pl.sgn (txt s))

theorem txt_extract2 (s : ByteArray) (a b : Nat) : txt (s.extract a b) = ((txt s).drop a).take (b - a) := by
  unfold txt; exact Lib.extract_data s a b

/-- No mark between n0 and j, one at j. -/
theorem mant_at (s : ByteArray) (n0 j : Nat) (h0 : Pl.sgn (txt s) = n0) (hn : n0 ≤ j) (hj : j < s.size) (h : ∀ k (h : k < s.size), n0 ≤ k → k < j → Pl.isE s[k] = false) (hE : Pl.isE s[j] = true) :
    Pl.mant (tl s) = txt (s.extract n0 j) ∧ Pl.rest (tl s) = s[j] :: txt (s.extract (j + 1) s.size) := by
  have e1 : tl s = txt (s.extract n0 j) ++ s[j] :: txt (s.extract (j + 1) s.size) := by
    unfold tl
    rw [h0, txt_extract2, txt_extract, ← txt_drop s j hj]
    conv => lhs; rw [← List.take_append_drop (j - n0) ((txt s).drop n0)]
    rw [List.drop_drop, show n0 + (j - n0) = j by omega]
  have hm : ∀ c ∈ txt (s.extract n0 j), Pl.isE c = false := by
    intro c hc
    rw [txt_extract2] at hc
    obtain ⟨i, hi, rfl⟩ := List.mem_iff_getElem.1 hc
    rw [List.length_take, List.length_drop, txt_length] at hi
    rw [List.getElem_take, List.getElem_drop]
    exact h (n0 + i) (by omega) (by omega) (by omega)
  rw [e1, (Pl.mant_digits _ _ hm).1, (Pl.mant_digits _ _ hm).2]
  simp [Pl.mant, Pl.rest, hE]
theorem mant_end (s : ByteArray) (n0 : Nat) (h0 : Pl.sgn (txt s) = n0) (h : ∀ k (h : k < s.size), n0 ≤ k → k < s.size → Pl.isE s[k] = false) :
    Pl.mant (tl s) = txt (s.extract n0 s.size) ∧ Pl.rest (tl s) = [] := by
  have e1 : tl s = txt (s.extract n0 s.size) ++ [] := by unfold tl; rw [h0, txt_extract, List.append_nil]
  have hm : ∀ c ∈ txt (s.extract n0 s.size), Pl.isE c = false := by
    intro c hc
    rw [txt_extract] at hc
    obtain ⟨i, hi, rfl⟩ := List.mem_iff_getElem.1 hc
    rw [List.length_drop, txt_length] at hi
    rw [List.getElem_drop]
    exact h (n0 + i) (by omega) (by omega) (by omega)
  rw [e1, (Pl.mant_digits _ _ hm).1, (Pl.mant_digits _ _ hm).2]
  simp [Pl.mant, Pl.rest]

/-- The scan of the mantissa's first k bytes. -/
def mk (m : ByteArray) (k : Nat) : Option (Bool × Nat × Nat) := ((txt m).take k).foldl Pl.mstep (some (false, 0, 0))
theorem take_txt (s : ByteArray) (k : Nat) (h : k < s.size) : (txt s).take (k + 1) = (txt s).take k ++ [s[k]] := by
  unfold txt
  rw [List.take_succ_eq_append_getElem (by simpa using h)]; rfl
theorem mk_succ (m : ByteArray) (k : Nat) (h : k < m.size) : mk m (k + 1) = Pl.mstep (mk m k) m[k] := by
  unfold mk; rw [take_txt m k h, List.foldl_append]; rfl
theorem mk_end (m : ByteArray) : mk m m.size = Pl.mfold (txt m) := by
  unfold mk Pl.mfold; rw [List.take_of_length_le (by rw [txt_length]; exact Nat.le_refl _)]
theorem mk_stuck (m : ByteArray) (k : Nat) (h : mk m k = none) : Pl.mfold (txt m) = none := by
  unfold mk at h
  unfold Pl.mfold
  conv => lhs; rw [← List.take_append_drop k (txt m)]
  rw [List.foldl_append, h, Pl.fold_none]
theorem mk_dot (m : ByteArray) (k b a : Nat) (h : k < m.size) (hk : mk m k = some (false, b, a)) (hc : ((m[k].toNat : Int) == 46) = true) : mk m (k + 1) = some (true, b, a) := by
  rw [mk_succ m k h, hk, byte46 hc]; rfl
theorem mk_dot2 (m : ByteArray) (k b a : Nat) (h : k < m.size) (hk : mk m k = some (true, b, a)) (hc : ((m[k].toNat : Int) == 46) = true) : Pl.mfold (txt m) = none :=
  mk_stuck m (k + 1) (by rw [mk_succ m k h, hk, byte46 hc]; rfl)
theorem beq46_false {c : UInt8} (hc : ((c.toNat : Int) == 46) = false) : (c == 46) = false := by
  rw [beq_eq_false_iff_ne]; exact byte46_ne hc
theorem mk_bad (m : ByteArray) (k b a : Nat) (d : Bool) (h : k < m.size) (hk : mk m k = some (d, b, a)) (hc : ((m[k].toNat : Int) == 46) = false) (hd : ¬ ((48 : Int) ≤ (m[k].toNat : Int) ∧ (m[k].toNat : Int) ≤ 57)) : Pl.mfold (txt m) = none := by
  refine mk_stuck m (k + 1) ?_
  rw [mk_succ m k h, hk]
  simp [Pl.mstep, beq46_false hc, dig_not hd]
theorem mk_before (m : ByteArray) (k b a : Nat) (h : k < m.size) (hk : mk m k = some (false, b, a)) (hc : ((m[k].toNat : Int) == 46) = false) (h1 : (48 : Int) ≤ (m[k].toNat : Int)) (h2 : (m[k].toNat : Int) ≤ 57) : mk m (k + 1) = some (false, b + 1, a) := by
  rw [mk_succ m k h, hk]
  simp [Pl.mstep, beq46_false hc, dig_of h1 h2]
theorem mk_after (m : ByteArray) (k b a : Nat) (h : k < m.size) (hk : mk m k = some (true, b, a)) (hc : ((m[k].toNat : Int) == 46) = false) (h1 : (48 : Int) ≤ (m[k].toNat : Int)) (h2 : (m[k].toNat : Int) ≤ 57) : mk m (k + 1) = some (true, b, a + 1) := by
  rw [mk_succ m k h, hk]
  simp [Pl.mstep, beq46_false hc, dig_of h1 h2]

/-- The exponent: from q0 on all digits, and one at least. -/
theorem ex_none (ex : ByteArray) (q0 : Nat) (h0 : Pl.sgn (txt ex) = q0) (h : q0 = ex.size) : Pl.exOk (txt ex) = false := by
  unfold Pl.exOk
  rw [h0, List.drop_eq_nil_of_le (by rw [txt_length]; omega)]; rfl
theorem ex_bad (ex : ByteArray) (q0 q : Nat) (h0 : Pl.sgn (txt ex) = q0) (hq : q0 ≤ q) (hl : q < ex.size) (hd : Pl.dig ex[q] = false) : Pl.exOk (txt ex) = false := by
  unfold Pl.exOk
  rw [h0]
  have : ((txt ex).drop q0).all Pl.dig = false := by
    rw [Bool.eq_false_iff]; intro h
    have hm : ex[q] ∈ (txt ex).drop q0 := by
      rw [List.mem_iff_getElem?]
      exact ⟨q - q0, by rw [List.getElem?_drop, show q0 + (q - q0) = q by omega, txt_get ex q hl]⟩
    have := List.all_eq_true.1 h _ hm
    rw [hd] at this; cases this
  rw [this, Bool.and_false]
theorem ex_ok (ex : ByteArray) (q0 : Nat) (h0 : Pl.sgn (txt ex) = q0) (hq : q0 < ex.size) (hd : ∀ k (h : k < ex.size), q0 ≤ k → Pl.dig ex[k] = true) : Pl.exOk (txt ex) = true := by
  unfold Pl.exOk
  rw [h0]
  have e1 : ((txt ex).drop q0).isEmpty = false := by rw [txt_drop ex q0 hq]; rfl
  rw [e1, Bool.not_false, Bool.true_and, List.all_eq_true]
  intro c hc
  obtain ⟨i, hi, rfl⟩ := List.mem_iff_getElem.1 hc
  rw [List.length_drop, txt_length] at hi
  rw [List.getElem_drop]
  exact hd (q0 + i) (by omega) (by omega)

theorem ret_dt {d : ByteArray} {t : List UInt8} {K : Nat} (h : Pl.numKindT t = K) (hd : d = dtS K) : Ending.returned (.string d) = .returned (.string (dtS (Pl.numKindT t))) := by
  rw [h, hd]

section
variable {t : List UInt8}
theorem nk_none {m : ByteArray} (hm : Pl.mant t = txt m) (h : Pl.mfold (txt m) = none) : Pl.numKindT t = 0 := by
  unfold Pl.numKindT; rw [hm, h]; rfl
theorem nk_plain {b a : Nat} {d : Bool} {m : ByteArray} (hm : Pl.mant t = txt m) (h : Pl.mfold (txt m) = some (d, b, a)) (hr : Pl.rest t = []) :
    Pl.numKindT t = if d then (if a == 0 then 0 else 2) else (if b == 0 then 0 else 1) := by
  unfold Pl.numKindT; rw [hm, h, hr]; rfl
theorem nk_exp {b a : Nat} {d : Bool} {m ex : ByteArray} {c : UInt8} (hm : Pl.mant t = txt m) (h : Pl.mfold (txt m) = some (d, b, a)) (hr : Pl.rest t = c :: txt ex) :
    Pl.numKindT t = if Pl.exOk (txt ex) then (if b + a == 0 then 0 else 3) else 0 := by
  unfold Pl.numKindT; rw [hm, h, hr]; rfl
end

/-- What stands in the frame ahead of the second loop: the mantissa m; no exponent, or the exponent ex. -/
def Cut (s m ex : ByteArray) (he : Bool) : Prop :=
  Pl.mant (tl s) = txt m ∧ m.size ≤ s.size ∧ ex.size ≤ s.size ∧ ((he = false ∧ Pl.rest (tl s) = []) ∨ (he = true ∧ ∃ c, Pl.rest (tl s) = c :: txt ex))

/-- The dot's place: -1 or a place. -/
def Dot (d : Bool) (z : Int) : Prop := (d = false ∧ z = -1) ∨ (d = true ∧ 0 ≤ z)

/-- The sign of the exponent, by cases. -/
theorem ex_sign (ex : ByteArray) : (¬ 0 < ex.size ∧ Pl.sgn (txt ex) = 0) ∨ (∃ h : 0 < ex.size, ((ex[0].toNat : Int) == 43) = false ∧ ((ex[0].toNat : Int) == 45) = false ∧ Pl.sgn (txt ex) = 0) ∨
    (∃ h : 0 < ex.size, ((ex[0].toNat : Int) == 43) = true ∧ Pl.sgn (txt ex) = 1) ∨ (∃ h : 0 < ex.size, ((ex[0].toNat : Int) == 43) = false ∧ ((ex[0].toNat : Int) == 45) = true ∧ Pl.sgn (txt ex) = 1) := by
  by_cases h1 : 0 < ex.size
  · have ht1 := txt_drop ex 0 h1
    rw [List.drop_zero] at ht1
    right
    cases h43 : ((ex[0].toNat : Int) == 43)
    · cases h45 : ((ex[0].toNat : Int) == 45)
      · exact .inl ⟨h1, h43, h45, by rw [ht1]; simp [Pl.sgn, isS_not h43 h45]⟩
      · exact .inr (.inr ⟨h1, h43, h45, by rw [ht1]; simp [Pl.sgn, isS_of (.inr h45)]⟩)
    · exact .inr (.inl ⟨h1, h43, by rw [ht1]; simp [Pl.sgn, isS_of (.inl h43)]⟩)
  · exact .inl ⟨h1, by rw [List.eq_nil_of_length_eq_zero (l := txt ex) (by rw [txt_length]; omega)]; rfl⟩
theorem extract_all (s : ByteArray) : s.extract 0 s.size = s := by
  apply ByteArray.ext
  apply Array.ext'
  have := txt_extract s 0
  unfold txt at this
  rw [this, List.drop_zero]
end Go.Proofs.Qxb6609053a
