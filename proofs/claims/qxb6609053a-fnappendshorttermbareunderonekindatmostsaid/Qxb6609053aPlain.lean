/-
  THE PLAIN LAW OF SEAT b6609053a: no Go in sight. 'scan': what scanNumber computes; 'numKind': what zzNumberKind computes (0: none, 1: integer, 2: decimal, 3: double); they agree.
-/
namespace Go.Proofs.Qxb6609053a.Pl

def dig (c : UInt8) : Bool := decide (48 ≤ c.toNat ∧ c.toNat ≤ 57)
def isE (c : UInt8) : Bool := c == 101 || c == 69
def isS (c : UInt8) : Bool := c == 43 || c == 45
def digits (l : List UInt8) : Nat := (l.takeWhile dig).length
def sgn : List UInt8 → Nat
  | [] => 0
  | c :: _ => if isS c then 1 else 0
def expo : List UInt8 → Nat
  | [] => 0
  | c :: r => if isE c then (if 0 < digits (r.drop (sgn r)) then 1 + sgn r + digits (r.drop (sgn r)) else 0) else 0

/-- Behind the sign: how many bytes, and of which kind. -/
def dotted (t : List UInt8) : Bool :=
  (t[digits t]? == some 46) && (decide (0 < digits (t.drop (digits t + 1))) || (decide (0 < digits t) && decide (0 < expo (t.drop (digits t + 1)))))
def upto (t : List UInt8) : Nat := if dotted t then digits t + 1 + digits (t.drop (digits t + 1)) else digits t
def scanT (t : List UInt8) : Nat × Nat :=
  if !dotted t && digits t == 0 then (0, 0)
  else if 0 < expo (t.drop (upto t)) then (upto t + expo (t.drop (upto t)), 3)
  else (upto t, if dotted t then 2 else 1)

def mstep (st : Option (Bool × Nat × Nat)) (c : UInt8) : Option (Bool × Nat × Nat) :=
  match st with
  | none => none
  | some (dot, b, a) => if c == 46 then (if dot then none else some (true, b, a)) else if dig c then (if dot then some (dot, b, a + 1) else some (dot, b + 1, a)) else none
def mfold (l : List UInt8) : Option (Bool × Nat × Nat) := l.foldl mstep (some (false, 0, 0))

def mant (t : List UInt8) : List UInt8 := t.takeWhile (fun c => !isE c)
def rest (t : List UInt8) : List UInt8 := t.dropWhile (fun c => !isE c)
def exOk (ex : List UInt8) : Bool := !(ex.drop (sgn ex)).isEmpty && (ex.drop (sgn ex)).all dig

def kindOf (m : Option (Bool × Nat × Nat)) (r : List UInt8) : Nat :=
  match m with
  | none => 0
  | some (dot, b, a) =>
    match r with
    | [] => if dot then (if a == 0 then 0 else 2) else (if b == 0 then 0 else 1)
    | _ :: ex => if exOk ex then (if b + a == 0 then 0 else 3) else 0
def numKindT (t : List UInt8) : Nat := kindOf (mfold (mant t)) (rest t)

theorem fold_none (l : List UInt8) : l.foldl mstep none = none := by
  induction l with
  | nil => rfl
  | cons c l ih => exact ih
theorem dig_ne46 {c : UInt8} (h : dig c = true) : (c == 46) = false := by
  rw [Bool.eq_false_iff]; intro e; rw [beq_iff_eq.1 e] at h; revert h; decide
theorem dig_notE {c : UInt8} (h : dig c = true) : isE c = false := by
  rw [Bool.eq_false_iff]; intro e
  unfold isE at e
  rw [Bool.or_eq_true, beq_iff_eq, beq_iff_eq] at e
  rcases e with rfl | rfl <;> (revert h; decide)
theorem fold_before : ∀ (D : List UInt8), (∀ c ∈ D, dig c = true) → ∀ (b a : Nat) (r : List UInt8), (D ++ r).foldl mstep (some (false, b, a)) = r.foldl mstep (some (false, b + D.length, a))
  | [], _, b, a, r => by simp
  | c :: D, h, b, a, r => by
    have hc := h c (by simp)
    have ih := fold_before D (fun d hd => h d (by simp [hd])) (b + 1) a r
    rw [List.cons_append, List.foldl_cons]
    have e : mstep (some (false, b, a)) c = some (false, b + 1, a) := by simp [mstep, dig_ne46 hc, hc]
    rw [e, ih, List.length_cons, show b + 1 + D.length = b + (D.length + 1) by omega]
theorem fold_after : ∀ (D : List UInt8), (∀ c ∈ D, dig c = true) → ∀ (b a : Nat) (r : List UInt8), (D ++ r).foldl mstep (some (true, b, a)) = r.foldl mstep (some (true, b, a + D.length))
  | [], _, b, a, r => by simp
  | c :: D, h, b, a, r => by
    have hc := h c (by simp)
    have ih := fold_after D (fun d hd => h d (by simp [hd])) b (a + 1) r
    rw [List.cons_append, List.foldl_cons]
    have e : mstep (some (true, b, a)) c = some (true, b, a + 1) := by simp [mstep, dig_ne46 hc, hc]
    rw [e, ih, List.length_cons, show a + 1 + D.length = a + (D.length + 1) by omega]

theorem split_dig (l : List UInt8) : ∃ D r, l = D ++ r ∧ (∀ c ∈ D, dig c = true) ∧ (r = [] ∨ ∃ c r', r = c :: r' ∧ dig c = false) ∧ digits l = D.length := by
  refine ⟨l.takeWhile dig, l.dropWhile dig, List.takeWhile_append_dropWhile.symm, fun c hc => ?_, ?_, rfl⟩
  · exact List.all_eq_true.1 List.all_takeWhile c hc
  · cases h : l.dropWhile dig with
    | nil => exact .inl rfl
    | cons c r =>
      refine .inr ⟨c, r, rfl, ?_⟩
      have := List.head?_dropWhile_not dig l
      rw [h] at this
      simpa using this

theorem digits_of {D r : List UInt8} (h : ∀ c ∈ D, dig c = true) (hr : r = [] ∨ ∃ c r', r = c :: r' ∧ dig c = false) : digits (D ++ r) = D.length := by
  unfold digits
  induction D with
  | nil =>
    rcases hr with rfl | ⟨c, r', rfl, hc⟩
    · rfl
    · simp [hc]
  | cons c D ih =>
    rw [List.cons_append, List.takeWhile_cons, if_pos (h c (by simp)), List.length_cons, List.length_cons, ih (fun d hd => h d (by simp [hd]))]

theorem mant_digits (D r : List UInt8) (h : ∀ c ∈ D, isE c = false) : mant (D ++ r) = D ++ mant r ∧ rest (D ++ r) = rest r := by
  unfold mant rest
  induction D with
  | nil => simp
  | cons c D ih =>
    have hc := h c (by simp)
    have := ih (fun d hd => h d (by simp [hd]))
    simp [hc, this.1, this.2]

/-- An exponent that ends just where the text ends. -/
theorem expo_full (c : UInt8) (ex : List UInt8) (hc : isE c = true) : exOk ex = (decide (0 < expo (c :: ex)) && decide (expo (c :: ex) = ex.length + 1)) := by
  have hs : sgn ex ≤ ex.length := by cases ex with | nil => simp [sgn] | cons d l => simp only [sgn, List.length_cons]; split <;> omega
  obtain ⟨D, r, hl, hD, hr, hdg⟩ := split_dig (ex.drop (sgn ex))
  have hlen := congrArg List.length hl
  rw [List.length_drop, List.length_append] at hlen
  unfold exOk
  simp only [expo, hc, if_true, hdg]
  rw [hl]
  rcases hr with rfl | ⟨d, r', rfl, hd⟩
  · cases D with
    | nil => simp
    | cons x D =>
      have e1 : (x :: D ++ []).all dig = true := List.all_eq_true.2 (fun c hc => hD c (by simpa using hc))
      rw [e1]
      simp only [List.length_cons] at hlen ⊢
      simp at hlen ⊢
      omega
  · have e1 : (D ++ d :: r').all dig = false := by
      rw [Bool.eq_false_iff]; intro h
      have := List.all_eq_true.1 h d (by simp)
      rw [hd] at this; cases this
    rw [e1, Bool.and_false]
    symm
    rw [Bool.eq_false_iff]
    intro h
    rw [Bool.and_eq_true, decide_eq_true_eq, decide_eq_true_eq] at h
    obtain ⟨h1, h2⟩ := h
    simp only [List.length_cons] at hlen
    split at h2
    · omega
    · omega

/-- What is left behind a number's digits and dot: nothing, an exponent, or something else. -/
theorem tail_law (P r : List UInt8) (k : Nat) (hr : r = [] ∨ ∃ c r', r = c :: r' ∧ dig c = false) (hne : ∀ c r', r = c :: r' → isE c = false → kindOf (mfold (P ++ mant r)) (rest r) = 0)
    (dot : Bool) (b a : Nat) (hm : mfold P = some (dot, b, a)) (hpos : 0 < b + a) (h0 : kindOf (some (dot, b, a)) [] = k) :
    kindOf (mfold (P ++ mant r)) (rest r) = if 0 < expo r then (if expo r = r.length then 3 else 0) else (if r = [] then k else 0) := by
  rcases hr with rfl | ⟨c, r', rfl, hc⟩
  · have e1 : mant ([] : List UInt8) = [] := rfl
    have e2 : rest ([] : List UInt8) = [] := rfl
    rw [e1, e2, List.append_nil, hm, h0]
    simp [expo]
  · cases hE : isE c with
    | false =>
      rw [hne c r' rfl hE]
      simp [expo, hE]
    | true =>
      have e1 : mant (c :: r') = [] := by simp [mant, hE]
      have e2 : rest (c :: r') = c :: r' := by simp [rest, hE]
      rw [e1, e2, List.append_nil, hm]
      have hx := expo_full c r' hE
      have hz : (b + a == 0) = false := by rw [beq_eq_false_iff_ne]; omega
      simp only [kindOf, hx, hz, List.length_cons]
      by_cases h1 : 0 < expo (c :: r')
      · by_cases h2 : expo (c :: r') = r'.length + 1
        · simp [h2]
        · simp [h1, h2]
      · simp [h1]

theorem getElem_end (D r : List UInt8) : (D ++ r)[D.length]? = r.head? := by
  rw [List.getElem?_append_right (Nat.le_refl _), Nat.sub_self]
  cases r <;> rfl
theorem drop_end (D r : List UInt8) : (D ++ r).drop D.length = r := by simp
theorem drop_end1 (D : List UInt8) (c : UInt8) (r : List UInt8) : (D ++ c :: r).drop (D.length + 1) = r := by
  rw [← List.drop_drop, drop_end]; rfl

/-- THE LAW, behind the sign. -/
theorem lawT (t : List UInt8) : numKindT t = if (scanT t).2 ≠ 0 ∧ (scanT t).1 = t.length then (scanT t).2 else 0 := by
  obtain ⟨D, r, rfl, hD, hr, hdg⟩ := split_dig t
  have hDE : ∀ c ∈ D, isE c = false := fun c hc => dig_notE (hD c hc)
  have hmD : mfold D = some (false, D.length, 0) := by
    have := fold_before D hD 0 0 []
    rw [List.append_nil, Nat.zero_add] at this
    exact this
  unfold numKindT
  rw [(mant_digits D r hDE).1, (mant_digits D r hDE).2]
  by_cases hdot : ∃ r2, r = 46 :: r2
  · obtain ⟨r2, rfl⟩ := hdot
    obtain ⟨D2, r3, rfl, hD2, hr3, hdg2⟩ := split_dig r2
    have hD2E : ∀ c ∈ D2, isE c = false := fun c hc => dig_notE (hD2 c hc)
    have hm46 : mant (46 :: (D2 ++ r3)) = 46 :: (D2 ++ mant r3) := by
      rw [← (mant_digits D2 r3 hD2E).1]; rfl
    have hr46 : rest (46 :: (D2 ++ r3)) = rest r3 := by
      rw [← (mant_digits D2 r3 hD2E).2]; rfl
    rw [hm46, hr46]
    have hgt : (D ++ 46 :: (D2 ++ r3))[D.length]? = some 46 := getElem_end _ _
    have hdr : (D ++ 46 :: (D2 ++ r3)).drop (D.length + 1) = D2 ++ r3 := drop_end1 _ _ _
    have hmP : mfold (D ++ 46 :: D2) = some (true, D.length, D2.length) := by
      unfold mfold
      rw [fold_before D hD 0 0, List.foldl_cons]
      have := fold_after D2 hD2 (0 + D.length) 0 []
      rw [List.append_nil] at this
      show D2.foldl mstep (some (true, 0 + D.length, 0)) = _
      rw [this]
      simp
    have eP : D ++ 46 :: (D2 ++ mant r3) = (D ++ 46 :: D2) ++ mant r3 := by simp
    have hbad : ∀ c r', r3 = c :: r' → isE c = false → kindOf (mfold ((D ++ 46 :: D2) ++ mant r3)) (rest r3) = 0 := by
      rintro c r' rfl hE
      have hcd : dig c = false := by
        rcases hr3 with h | ⟨c', r'', h, hc'⟩
        · cases h
        · cases h; exact hc'
      have e1 : mant (c :: r') = c :: mant r' := by simp [mant, hE]
      have e2 : mfold ((D ++ 46 :: D2) ++ (c :: mant r')) = none := by
        unfold mfold at hmP ⊢
        rw [List.foldl_append, hmP, List.foldl_cons]
        have : mstep (some (true, D.length, D2.length)) c = none := by simp [mstep, hcd]
        rw [this, fold_none]
      rw [e1, e2]; rfl
    rw [eP]
    by_cases hp : 0 < D2.length
    · -- a fraction
      have hdt : dotted (D ++ 46 :: (D2 ++ r3)) = true := by
        unfold dotted
        rw [hdg, hgt, hdr, hdg2]
        simp [hp]
      have hup : upto (D ++ 46 :: (D2 ++ r3)) = D.length + 1 + D2.length := by
        unfold upto; rw [hdt, if_pos rfl, hdg, hdr, hdg2]
      have hdr2 : (D ++ 46 :: (D2 ++ r3)).drop (D.length + 1 + D2.length) = r3 := by
        rw [← List.drop_drop, hdr, drop_end]
      have hsc : scanT (D ++ 46 :: (D2 ++ r3)) = if 0 < expo r3 then (D.length + 1 + D2.length + expo r3, 3) else (D.length + 1 + D2.length, 2) := by
        unfold scanT
        rw [hdt, hup, hdr2]; rfl
      rw [hsc, tail_law (D ++ 46 :: D2) r3 2 hr3 hbad true D.length D2.length hmP (by omega) (by have hz : (D2.length == 0) = false := (by rw [beq_eq_false_iff_ne]; omega); simp only [kindOf, hz]; rfl)]
      have hlen : (D ++ 46 :: (D2 ++ r3)).length = D.length + 1 + D2.length + r3.length := by simp; omega
      rw [hlen]
      by_cases h1 : 0 < expo r3
      · simp only [h1, if_true]
        by_cases h2 : expo r3 = r3.length
        · simp [h2]
        · rw [if_neg h2, if_neg (by omega)]
      · simp only [h1, if_false]
        cases r3 with
        | nil => simp
        | cons c r' => simp
    · -- a dot without a fraction
      obtain rfl : D2 = [] := List.eq_nil_of_length_eq_zero (by omega)
      simp only [List.nil_append] at *
      by_cases hd : 0 < D.length ∧ 0 < expo r3
      · have hdt : dotted (D ++ 46 :: r3) = true := by
          unfold dotted
          rw [hdg, hgt, hdr]
          simp [hd.1, hd.2]
        have hup : upto (D ++ 46 :: r3) = D.length + 1 := by
          unfold upto; rw [hdt, if_pos rfl, hdg, hdr, hdg2]; rfl
        have hsc : scanT (D ++ 46 :: r3) = (D.length + 1 + expo r3, 3) := by
          unfold scanT
          rw [hdt, hup, hdr, if_pos hd.2]; rfl
        rw [hsc, tail_law (D ++ [46]) r3 0 hr3 hbad true D.length 0 hmP (by omega) (by simp [kindOf]), if_pos hd.2]
        have hlen : (D ++ 46 :: r3).length = D.length + 1 + r3.length := by simp; omega
        rw [hlen]
        by_cases h2 : expo r3 = r3.length
        · simp [h2]
        · rw [if_neg h2, if_neg (by simp; omega)]
      · have hdt : dotted (D ++ 46 :: r3) = false := by
          unfold dotted
          rw [hdg, hgt, hdr, hdg2]
          simp; omega
        have hup : upto (D ++ 46 :: r3) = D.length := by
          unfold upto; rw [hdt]; simp [hdg]
        have he46 : expo (46 :: r3) = 0 := by simp [expo, isE]
        have hsc : scanT (D ++ 46 :: r3) = if D.length = 0 then (0, 0) else (D.length, 1) := by
          unfold scanT
          rw [hdt, hup, hdg, drop_end, he46]
          by_cases hz : D.length = 0
          · simp [hz]
          · simp [hz]
        have hlen : (D ++ 46 :: r3).length = D.length + 1 + r3.length := by simp; omega
        have hR : (if (scanT (D ++ 46 :: r3)).2 ≠ 0 ∧ (scanT (D ++ 46 :: r3)).1 = (D ++ 46 :: r3).length then (scanT (D ++ 46 :: r3)).2 else 0) = 0 := by
          rw [hsc, hlen]
          by_cases hz : D.length = 0
          · simp [hz]
          · rw [if_neg hz, if_neg (by intro h; have := h.2; simp at this; omega)]
        rw [hR]
        rcases hr3 with rfl | ⟨c, r', rfl, hc⟩
        · have e1 : mant ([] : List UInt8) = [] := rfl
          have e2 : rest ([] : List UInt8) = [] := rfl
          rw [e1, e2, List.append_nil, hmP]
          simp [kindOf]
        · cases hE : isE c with
          | false => exact hbad c r' rfl hE
          | true =>
            have e1 : mant (c :: r') = [] := by simp [mant, hE]
            have e2 : rest (c :: r') = c :: r' := by simp [rest, hE]
            rw [e1, e2, List.append_nil, hmP]
            simp only [kindOf, expo_full c r' hE]
            by_cases h1 : 0 < expo (c :: r')
            · have : D.length = 0 := by omega
              simp [this]
            · simp [h1]
  · -- no dot
    have hh : (r.head? == some 46) = false := by
      rw [Bool.eq_false_iff]; intro h
      cases r with
      | nil => simp at h
      | cons c r' => exact hdot ⟨r', by simp at h; rw [h]⟩
    have hdt : dotted (D ++ r) = false := by
      unfold dotted
      rw [hdg, getElem_end, hh, Bool.false_and]
    have hup : upto (D ++ r) = D.length := by unfold upto; rw [hdt]; simp [hdg]
    have hsc : scanT (D ++ r) = if D.length = 0 then (0, 0) else if 0 < expo r then (D.length + expo r, 3) else (D.length, 1) := by
      unfold scanT
      rw [hdt, hup, hdg, drop_end]
      by_cases hz : D.length = 0
      · simp [hz]
      · simp [hz]
    have hlen : (D ++ r).length = D.length + r.length := by simp
    have hbad : ∀ c r', r = c :: r' → isE c = false → kindOf (mfold (D ++ mant r)) (rest r) = 0 := by
      rintro c r' rfl hE
      have hcd : dig c = false := by
        rcases hr with h | ⟨c', r'', h, hc'⟩
        · cases h
        · cases h; exact hc'
      have hc46 : (c == 46) = false := by simpa using hh
      have e1 : mant (c :: r') = c :: mant r' := by simp [mant, hE]
      have e2 : mfold (D ++ (c :: mant r')) = none := by
        unfold mfold at hmD ⊢
        rw [List.foldl_append, hmD, List.foldl_cons]
        have : mstep (some (false, D.length, 0)) c = none := by simp [mstep, hcd, hc46]
        rw [this, fold_none]
      rw [e1, e2]; rfl
    by_cases hz : D.length = 0
    · obtain rfl : D = [] := List.eq_nil_of_length_eq_zero hz
      rw [hsc]
      simp only [List.length_nil, if_true, ne_eq, not_true, false_and, if_false]
      rcases hr with rfl | ⟨c, r', rfl, hc⟩
      · rfl
      · cases hE : isE c with
        | false => exact hbad c r' rfl hE
        | true =>
          have e1 : mant (c :: r') = [] := by simp [mant, hE]
          have e2 : rest (c :: r') = c :: r' := by simp [rest, hE]
          rw [e1, e2]
          simp [mfold, kindOf]
    · rw [hsc, if_neg hz, tail_law D r 1 hr hbad false D.length 0 hmD (by omega) (by have hz' : (D.length == 0) = false := (by rw [beq_eq_false_iff_ne]; omega); simp only [kindOf, hz']; rfl), hlen]
      by_cases h1 : 0 < expo r
      · simp only [h1, if_true]
        by_cases h2 : expo r = r.length
        · simp [h2]
        · rw [if_neg h2, if_neg (by simp; omega)]
      · simp only [h1, if_false]
        cases r with
        | nil => simp
        | cons c r' => simp

end Go.Proofs.Qxb6609053a.Pl
