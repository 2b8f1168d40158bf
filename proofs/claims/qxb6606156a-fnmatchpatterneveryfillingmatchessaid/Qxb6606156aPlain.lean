/-
  THE PLAIN LAW OF SEAT b6606156a: no Go in sight. 'M p v': does v match the pattern p, in which each '*' (byte 42) stands for any run of bytes? The greedy way of matchPattern and the table of zzGlobModel both answer 'M p v'; what zzFill writes matches.
-/
import Derived.Lib.IndexMore
namespace Go.Proofs.Qxb6606156a.Pl
open Go

def M : List UInt8 → List UInt8 → Bool
  | [], v => v.isEmpty
  | c :: p, v =>
    if c == 42 then (List.range (v.length + 1)).any (fun k => M p (v.drop k))
    else match v with
      | [] => false
      | d :: v' => d == c && M p v'

theorem M_nil (v : List UInt8) : M [] v = true ↔ v = [] := by
  simp [M]

theorem M_star (p v : List UInt8) : M (42 :: p) v = true ↔ ∃ k, k ≤ v.length ∧ M p (v.drop k) = true := by
  simp only [M, beq_self_eq_true, if_true, List.any_eq_true, List.mem_range]
  constructor
  · rintro ⟨k, h1, h2⟩; exact ⟨k, by omega, h2⟩
  · rintro ⟨k, h1, h2⟩; exact ⟨k, by omega, h2⟩

theorem M_chr {c : UInt8} (hc : c ≠ 42) (p v : List UInt8) : M (c :: p) v = true ↔ ∃ v', v = c :: v' ∧ M p v' = true := by
  have h : (c == 42) = false := by simpa using hc
  cases v with
  | nil => simp [M, h]
  | cons d v' =>
    simp only [M, h, Bool.false_eq_true, if_false, Bool.and_eq_true, beq_iff_eq, List.cons.injEq]
    constructor
    · intro ⟨h1, h2⟩; exact ⟨v', ⟨h1, rfl⟩, h2⟩
    · rintro ⟨v'', ⟨h1, rfl⟩, h2⟩; exact ⟨h1, h2⟩

theorem M_part : ∀ {part : List UInt8}, (∀ c ∈ part, c ≠ 42) → ∀ (q v : List UInt8), M (part ++ q) v = true ↔ ∃ v', v = part ++ v' ∧ M q v' = true
  | [], _, q, v => by simp
  | c :: part, h, q, v => by
    rw [List.cons_append, M_chr (h c (by simp))]
    have ih := fun v => M_part (part := part) (fun d hd => h d (by simp [hd])) q v
    constructor
    · rintro ⟨v', rfl, h2⟩
      obtain ⟨v'', rfl, h3⟩ := (ih v').1 h2
      exact ⟨v'', rfl, h3⟩
    · rintro ⟨v', rfl, h2⟩
      exact ⟨part ++ v', rfl, (ih _).2 ⟨v', rfl, h2⟩⟩

theorem star_mono (p v : List UInt8) (a : Nat) (ha : a ≤ v.length) (h : M (42 :: p) (v.drop a) = true) : M (42 :: p) v = true := by
  obtain ⟨k, h1, h2⟩ := (M_star _ _).1 h
  rw [List.length_drop] at h1
  exact (M_star _ _).2 ⟨a + k, by omega, by rwa [List.drop_drop] at h2⟩

/-! ### what strings.Cut at "*" gives -/
theorem indexByte_spec : ∀ (s : List UInt8) (c : UInt8), (Lib.indexByte s c = -1 ∧ ∀ d ∈ s, d ≠ c) ∨ (∃ i : Nat, Lib.indexByte s c = i ∧ i < s.length ∧ s = s.take i ++ c :: s.drop (i + 1) ∧ ∀ d ∈ s.take i, d ≠ c)
  | [], c => .inl ⟨rfl, by simp⟩
  | b :: l, c => by
    by_cases hb : b = c
    · subst hb
      exact .inr ⟨0, by simp [Lib.indexByte], by simp, by simp, by simp⟩
    · have hb' : (b == c) = false := by simpa using hb
      rcases indexByte_spec l c with ⟨h1, h2⟩ | ⟨i, h1, h2, h3, h4⟩
      · refine .inl ⟨by simp [Lib.indexByte, hb', h1], ?_⟩
        intro d hd
        rcases List.mem_cons.1 hd with rfl | hd
        · exact hb
        · exact h2 d hd
      · refine .inr ⟨i + 1, ?_, by simpa using h2, ?_, ?_⟩
        · have : ((i : Int) == -1) = false := by rw [beq_eq_false_iff_ne]; omega
          simp [Lib.indexByte, hb', h1, this]
        · simp only [List.take_succ_cons, List.drop_succ_cons, List.cons_append, List.cons.injEq, true_and]
          exact h3
        · intro d hd
          rw [List.take_succ_cons] at hd
          rcases List.mem_cons.1 hd with rfl | hd
          · exact hb
          · exact h4 d hd

theorem cut_spec (s : List UInt8) : (Lib.cut s [42] = (s, [], false) ∧ ∀ d ∈ s, d ≠ 42) ∨ (∃ part more, Lib.cut s [42] = (part, more, true) ∧ s = part ++ 42 :: more ∧ ∀ d ∈ part, d ≠ 42) := by
  rcases indexByte_spec s 42 with ⟨h1, h2⟩ | ⟨i, h1, h2, h3, h4⟩
  · left
    refine ⟨?_, h2⟩
    have hi : Lib.index s [42] = -1 := by rw [Lib.index_one]; exact h1
    simp [Lib.cut, hi]
  · right
    refine ⟨s.take i, s.drop (i + 1), ?_, h3, h4⟩
    have hi : Lib.index s [42] = i := by rw [Lib.index_one]; exact h1
    simp [Lib.cut, hi]

/-! ### the greedy way -/
theorem M_plain {p : List UInt8} (h : ∀ d ∈ p, d ≠ 42) (v : List UInt8) : M p v = (p == v) := by
  rw [Bool.eq_iff_iff, beq_iff_eq]
  have := M_part h [] v
  rw [List.append_nil] at this
  rw [this]
  constructor
  · rintro ⟨v', rfl, h2⟩
    rw [(M_nil _).1 h2]; simp
  · rintro rfl
    exact ⟨[], by simp, by simp [M]⟩

theorem M_head {head : List UInt8} (h : ∀ d ∈ head, d ≠ 42) (rest v : List UInt8) :
    M (head ++ 42 :: rest) v = (Lib.hasPrefix v head && M (42 :: rest) (Lib.trimPrefix v head)) := by
  rw [Bool.eq_iff_iff, M_part h, Bool.and_eq_true]
  unfold Lib.trimPrefix Lib.hasPrefix
  constructor
  · rintro ⟨v', rfl, h2⟩
    have hp : head.isPrefixOf (head ++ v') = true := by simp
    rw [if_pos hp]
    exact ⟨hp, by simpa using h2⟩
  · rintro ⟨hp, h2⟩
    rw [if_pos hp] at h2
    obtain ⟨t, rfl⟩ := List.isPrefixOf_iff_prefix.1 hp
    exact ⟨t, rfl, by simpa using h2⟩

theorem M_last {part : List UInt8} (h : ∀ d ∈ part, d ≠ 42) (v : List UInt8) : M (42 :: part) v = Lib.hasSuffix v part := by
  unfold Lib.hasSuffix
  rw [Bool.eq_iff_iff, M_star, List.isSuffixOf_iff_suffix]
  constructor
  · rintro ⟨k, hk, h2⟩
    rw [M_plain h, beq_iff_eq] at h2
    exact ⟨v.take k, by rw [h2]; exact List.take_append_drop _ _⟩
  · rintro ⟨t, rfl⟩
    exact ⟨t.length, by simp, by rw [M_plain h]; simp⟩

theorem M_next_none {part : List UInt8} (h : ∀ d ∈ part, d ≠ 42) (more v : List UInt8) (hi : Lib.index v part < 0) : M (42 :: (part ++ 42 :: more)) v = false := by
  rw [Bool.eq_false_iff]
  intro hm
  obtain ⟨k, hk, h2⟩ := (M_star _ _).1 hm
  obtain ⟨v', h3, _⟩ := (M_part h _ _).1 h2
  rcases Lib.index_spec v part with ⟨_, hn⟩ | ⟨i, h1, _⟩
  · have := hn k hk
    unfold Lib.occAt at this
    have hp : part.isPrefixOf (part ++ v') = true := by simp
    rw [h3, hp] at this
    cases this
  · omega

theorem M_next {part : List UInt8} (h : ∀ d ∈ part, d ≠ 42) (more v : List UInt8) (i : Nat) (hi : Lib.index v part = i) : M (42 :: (part ++ 42 :: more)) v = M (42 :: more) (v.drop (i + part.length)) := by
  rcases Lib.index_spec v part with ⟨h1, _⟩ | ⟨i', h1, hle, hocc, hno⟩
  · omega
  obtain rfl : i' = i := by omega
  unfold Lib.occAt at hocc
  obtain ⟨t, ht⟩ := List.isPrefixOf_iff_prefix.1 hocc
  have hlen := congrArg List.length ht
  simp only [List.length_append, List.length_drop] at hlen
  have ht2 : v.drop (i' + part.length) = t := by
    rw [← List.drop_drop, ← ht]; simp
  rw [Bool.eq_iff_iff, ht2]
  constructor
  · intro hm
    obtain ⟨k, hk, h2⟩ := (M_star _ _).1 hm
    obtain ⟨v', h3, h4⟩ := (M_part h _ _).1 h2
    have hki : i' ≤ k := by
      refine Nat.le_of_not_lt fun hlt => ?_
      have := hno k hlt
      unfold Lib.occAt at this
      have hp : part.isPrefixOf (part ++ v') = true := by simp
      rw [h3, hp] at this
      cases this
    have hv' : v' = t.drop (k - i') := by
      have : v' = v.drop (k + part.length) := by rw [← List.drop_drop, h3]; simp
      rw [this, ← ht2, List.drop_drop]
      congr 1
      omega
    have hlen2 := congrArg List.length h3
    simp only [List.length_append, List.length_drop] at hlen2
    rw [hv'] at h4
    exact star_mono _ _ _ (by omega) h4
  · intro hm
    exact (M_star _ _).2 ⟨i', hle, (M_part h _ _).2 ⟨t, ht.symm, hm⟩⟩

/-! ### the table: one byte more at the pattern's end -/
theorem M_snoc_star : ∀ (q v : List UInt8), M (q ++ [42]) v = true ↔ ∃ k, k ≤ v.length ∧ M q (v.take k) = true
  | [], v => by
    rw [List.nil_append, M_star]
    exact ⟨fun _ => ⟨0, by omega, by simp [M]⟩, fun _ => ⟨v.length, by omega, by simp [M]⟩⟩
  | c :: q, v => by
    by_cases hc : c = 42
    · subst hc
      rw [List.cons_append, M_star]
      constructor
      · rintro ⟨a, ha, h2⟩
        obtain ⟨k, hk, h3⟩ := (M_snoc_star q _).1 h2
        rw [List.length_drop] at hk
        refine ⟨a + k, by omega, (M_star _ _).2 ⟨a, by rw [List.length_take]; omega, ?_⟩⟩
        rw [List.drop_take]
        rwa [show a + k - a = k by omega]
      · rintro ⟨k, hk, h2⟩
        obtain ⟨a, ha, h3⟩ := (M_star _ _).1 h2
        rw [List.length_take] at ha
        refine ⟨a, by omega, (M_snoc_star q _).2 ⟨k - a, by rw [List.length_drop]; omega, ?_⟩⟩
        rwa [List.drop_take] at h3
    · rw [List.cons_append, M_chr hc]
      constructor
      · rintro ⟨v', rfl, h2⟩
        obtain ⟨k, hk, h3⟩ := (M_snoc_star q _).1 h2
        exact ⟨k + 1, by simpa using hk, (M_chr hc _ _).2 ⟨v'.take k, by simp, h3⟩⟩
      · rintro ⟨k, hk, h2⟩
        obtain ⟨v'', h3, h4⟩ := (M_chr hc _ _).1 h2
        cases k with
        | zero => simp at h3
        | succ k =>
          cases v with
          | nil => simp at h3
          | cons d v =>
            simp only [List.take_succ_cons, List.cons.injEq] at h3
            obtain ⟨rfl, rfl⟩ := h3
            exact ⟨v, rfl, (M_snoc_star q _).2 ⟨k, by simpa using hk, h4⟩⟩

theorem M_snoc_chr {c : UInt8} (hc : c ≠ 42) : ∀ (q v : List UInt8), M (q ++ [c]) v = true ↔ ∃ v', v = v' ++ [c] ∧ M q v' = true
  | [], v => by
    rw [List.nil_append, M_chr hc]
    constructor
    · rintro ⟨v', rfl, h2⟩
      rw [(M_nil _).1 h2]
      exact ⟨[], rfl, by simp [M]⟩
    · rintro ⟨v', rfl, h2⟩
      rw [(M_nil _).1 h2]
      exact ⟨[], rfl, by simp [M]⟩
  | d :: q, v => by
    by_cases hd : d = 42
    · subst hd
      rw [List.cons_append, M_star]
      constructor
      · rintro ⟨a, ha, h2⟩
        obtain ⟨v', h3, h4⟩ := (M_snoc_chr hc q _).1 h2
        refine ⟨v.take a ++ v', ?_, (M_star _ _).2 ⟨a, by rw [List.length_append, List.length_take]; omega, ?_⟩⟩
        · rw [List.append_assoc, ← h3, List.take_append_drop]
        · have hl : (v.take a).length = a := by rw [List.length_take]; omega
          rw [List.drop_append_of_le_length (by omega), List.drop_of_length_le (by omega)]
          simpa using h4
      · rintro ⟨v', rfl, h2⟩
        obtain ⟨a, ha, h3⟩ := (M_star _ _).1 h2
        refine ⟨a, by rw [List.length_append]; omega, (M_snoc_chr hc q _).2 ⟨v'.drop a, ?_, h3⟩⟩
        rw [List.drop_append_of_le_length ha]
    · rw [List.cons_append, M_chr hd]
      constructor
      · rintro ⟨v', rfl, h2⟩
        obtain ⟨v'', rfl, h3⟩ := (M_snoc_chr hc q _).1 h2
        exact ⟨d :: v'', rfl, (M_chr hd _ _).2 ⟨v'', rfl, h3⟩⟩
      · rintro ⟨v', rfl, h2⟩
        obtain ⟨v'', rfl, h3⟩ := (M_chr hd _ _).1 h2
        exact ⟨v'' ++ [c], rfl, (M_snoc_chr hc q _).2 ⟨v'', rfl, h3⟩⟩

theorem star_zero (q v : List UInt8) : M (q ++ [42]) (v.take 0) = M q (v.take 0) := by
  rw [Bool.eq_iff_iff, M_snoc_star]
  constructor
  · rintro ⟨k, _, h⟩; simpa using h
  · intro h; exact ⟨0, by omega, by simpa using h⟩

theorem star_succ (q v : List UInt8) (j : Nat) (hj : j < v.length) : M (q ++ [42]) (v.take (j + 1)) = (M q (v.take (j + 1)) || M (q ++ [42]) (v.take j)) := by
  rw [Bool.eq_iff_iff, Bool.or_eq_true, M_snoc_star, M_snoc_star]
  simp only [List.length_take, List.take_take]
  constructor
  · rintro ⟨k, hk, h⟩
    by_cases hkj : k = j + 1
    · subst hkj
      left
      rwa [Nat.min_self] at h
    · right
      refine ⟨k, by omega, ?_⟩
      rw [Nat.min_eq_left (by omega)] at h ⊢
      exact h
  · rintro (h | ⟨k, hk, h⟩)
    · exact ⟨j + 1, by omega, by rwa [Nat.min_self]⟩
    · refine ⟨k, by omega, ?_⟩
      rw [Nat.min_eq_left (by omega)] at h ⊢
      exact h

theorem chr_zero {c : UInt8} (hc : c ≠ 42) (q v : List UInt8) : M (q ++ [c]) (v.take 0) = false := by
  rw [Bool.eq_false_iff]
  intro h
  obtain ⟨v', h1, _⟩ := (M_snoc_chr hc _ _).1 h
  simp at h1

theorem chr_succ {c : UInt8} (hc : c ≠ 42) (q v : List UInt8) (j : Nat) (hj : j < v.length) : M (q ++ [c]) (v.take (j + 1)) = (M q (v.take j) && v[j] == c) := by
  rw [Bool.eq_iff_iff, M_snoc_chr hc, Bool.and_eq_true, beq_iff_eq, List.take_succ_eq_append_getElem hj]
  constructor
  · rintro ⟨v', h1, h2⟩
    have := List.append_inj' h1 rfl
    simp only [List.cons.injEq, and_true] at this
    rw [this.1, this.2]
    exact ⟨h2, rfl⟩
  · rintro ⟨h1, h2⟩
    exact ⟨v.take j, by rw [h2], h1⟩

/-! ### what zzFill writes -/
def fill : List UInt8 → List (List UInt8) → List UInt8
  | [], _ => []
  | c :: p, fs => if c == 42 then (fs.headD []) ++ fill p fs.tail else c :: fill p fs

theorem fill_matches : ∀ (p : List UInt8) (fs : List (List UInt8)), M p (fill p fs) = true
  | [], _ => by simp [M, fill]
  | c :: p, fs => by
    by_cases hc : c = 42
    · subst hc
      refine (M_star _ _).2 ⟨(fs.headD []).length, by simp [fill], ?_⟩
      simp only [fill, beq_self_eq_true, if_true, List.drop_left]
      exact fill_matches p _
    · have h : (c == 42) = false := by simpa using hc
      refine (M_chr hc _ _).2 ⟨fill p fs, ?_, fill_matches p fs⟩
      simp [fill, h]

end Go.Proofs.Qxb6606156a.Pl
