/-
  The lines of a text, in plain words; the cut at a line end.
-/
import Derived.Test.Qxb6612819aDoorZz
namespace Go.Proofs.Qxb6612819aDoor
open Go.RowKit

/-- The pieces that end at an LF or at the end. -/
def pieces : List Int → List (List Int)
  | [] => []
  | x :: xs => if x = 10 then [] :: pieces xs else match pieces xs with
    | [] => [[x]]
    | h :: t => (x :: h) :: t

theorem pieces_lf (a b : List Int) : pieces (a ++ 10 :: b) = pieces (a ++ [10]) ++ pieces b ∧ pieces (a ++ [10]) ≠ [] := by
  induction a with
  | nil => exact ⟨by simp [pieces], by simp [pieces]⟩
  | cons x a ih =>
    obtain ⟨h1, h2⟩ := ih
    simp only [List.cons_append, pieces]
    by_cases hx : x = 10
    · rw [if_pos hx, if_pos hx, h1]; exact ⟨rfl, by simp⟩
    · rw [if_neg hx, if_neg hx, h1]
      cases h : pieces (a ++ [10]) with
      | nil => exact absurd h h2
      | cons y ys => exact ⟨rfl, by simp⟩

/-- How many LFs there are. -/
def breaks (a : List Int) : Nat := (a.filter (fun x => decide (x = 10))).length
theorem breaks_cons (x : Int) (a : List Int) : breaks (x :: a) = (if x = 10 then 1 else 0) + breaks a := by
  unfold breaks
  by_cases h : x = 10 <;> simp [List.filter, h]; omega
theorem breaks_snoc (x : Int) (a : List Int) : breaks (a ++ [x]) = breaks a + (if x = 10 then 1 else 0) := by
  unfold breaks
  rw [List.filter_append, List.length_append]
  by_cases h : x = 10 <;> simp [List.filter, h]

theorem pieces_count (a : List Int) : (pieces (a ++ [10])).length = breaks a + 1 := by
  induction a with
  | nil => simp [pieces, breaks]
  | cons x a ih =>
    have h2 := (pieces_lf a []).2
    rw [breaks_cons]
    simp only [List.cons_append, pieces]
    by_cases hx : x = 10
    · rw [if_pos hx, if_pos hx, List.length_cons, ih]; omega
    · rw [if_neg hx, if_neg hx]
      cases h : pieces (a ++ [10]) with
      | nil => exact absurd h h2
      | cons y ys => rw [h] at ih; simp only [List.length_cons] at ih ⊢; omega

/-- The first piece. -/
theorem pieces_first (L : Nat) : ∀ l : List Int, l ≠ [] → (∀ j, j < L → l.getD j 0 ≠ 10) → L ≤ l.length → (L = l.length ∨ l.getD L 0 = 10) → pieces l = l.take L :: pieces (l.drop (L + 1)) := by
  induction L with
  | zero =>
    intro l h0 _ _ h3
    cases l with
    | nil => exact absurd rfl h0
    | cons x xs =>
      have hx : x = 10 := by
        rcases h3 with h3 | h3
        · simp at h3
        · simpa using h3
      simp [pieces, hx]
  | succ L ih =>
    intro l h0 h1 h2 h3
    cases l with
    | nil => exact absurd rfl h0
    | cons x xs =>
      have hx : x ≠ 10 := by simpa using h1 0 (by omega)
      simp only [pieces, List.take_succ_cons, List.drop_succ_cons]
      rw [if_neg hx]
      by_cases he : xs = []
      · subst he
        obtain rfl : L = 0 := by simp at h2; omega
        simp [pieces]
      · rw [ih xs he (fun j hj => by simpa using h1 (j + 1) (by omega)) (by simpa using h2) (by simpa using h3)]

/-- The lines of a text. -/
def linesOf (C : Nat) (ds : List Int) : List (List Int) := (pieces ds).map fun q => want q C 0 q.length

theorem linesOf_lf (C : Nat) (a b : List Int) : linesOf C (a ++ 10 :: b) = linesOf C (a ++ [10]) ++ linesOf C b := by
  unfold linesOf; rw [(pieces_lf a b).1, List.map_append]
theorem linesOf_count (C : Nat) (a : List Int) : (linesOf C (a ++ [10])).length = breaks a + 1 := by
  unfold linesOf; rw [List.length_map, pieces_count]

theorem getD_drop (ds : List Int) (p j : Nat) : (ds.drop p).getD j 0 = ds.getD (p + j) 0 := by
  simp [List.getD_eq_getElem?_getD]
theorem getD_take {ds : List Int} {k j : Nat} (h : j < k) : (ds.take k).getD j 0 = ds.getD j 0 := by
  simp [List.getD_eq_getElem?_getD, h]

theorem want_piece (ds : List Int) (C p L : Nat) (hL : p + L ≤ ds.length) : want ((ds.drop p).take L) C 0 ((ds.drop p).take L).length = want ds C p L := by
  have hl : ((ds.drop p).take L).length = L := by rw [List.length_take, List.length_drop]; omega
  have ht : trimLen ((ds.drop p).take L) 0 L 13 = trimLen ds p L 13 := by
    unfold trimLen
    by_cases h0 : 0 < L
    · rw [Nat.zero_add, getD_take (by omega), getD_drop]
    · simp [h0]
  have hle : trimLen ds p L 13 ≤ L := by unfold trimLen; split <;> omega
  unfold want
  rw [hl, ht, List.drop_zero]
  by_cases hc : C ≤ L
  · rw [if_pos hc, if_pos hc, List.take_take, Nat.min_eq_left hc]
  · rw [if_neg hc, if_neg hc, List.take_take, Nat.min_eq_left hle]

/-- The lines from p on: the line at p, and the lines from the next position on. -/
theorem linesOf_step (C : Nat) (ds : List Int) (p L : Nat) (hp : p < ds.length) (h : IsLine ds p L) : linesOf C (ds.drop p) = want ds C p L :: linesOf C (ds.drop (nextPos ds p L)) := by
  have hle := h.le
  have h1 := pieces_first L (ds.drop p) (by intro e; have := congrArg List.length e; rw [List.length_drop] at this; simp at this; omega) (fun j hj => by rw [getD_drop]; exact h.no j hj) (by rw [List.length_drop]; omega)
    (by rw [List.length_drop, getD_drop]; rcases h.stop with e | e
        · left; omega
        · right; exact e)
  unfold linesOf
  rw [h1, List.map_cons, want_piece ds C p L hle]
  congr 2
  rw [List.drop_drop]
  unfold nextPos
  by_cases hn : p + L < ds.length
  · rw [if_pos hn, Nat.add_assoc]
  · rw [if_neg hn, List.drop_eq_nil_of_le (by omega), List.drop_eq_nil_of_le (by omega)]
theorem linesOf_end (C : Nat) (ds : List Int) (p : Nat) (hp : ds.length ≤ p) : linesOf C (ds.drop p) = [] := by
  rw [List.drop_eq_nil_of_le hp]; rfl

/-- There is a line at every position. -/
theorem line_there (ds : List Int) : ∀ n p, p + n = ds.length → ∃ L, IsLine ds p L := by
  intro n
  induction n with
  | zero => intro p hp; exact ⟨0, fun j hj => absurd hj (Nat.not_lt_zero _), by omega, .inl (by omega)⟩
  | succ n ih =>
    intro p hp
    by_cases h : ds.getD p 0 = 10
    · exact ⟨0, fun j hj => absurd hj (Nat.not_lt_zero _), by omega, .inr h⟩
    · obtain ⟨L, hL⟩ := ih (p + 1) (by omega)
      refine ⟨L + 1, fun j hj => ?_, by have := hL.le; omega, ?_⟩
      · cases j with
        | zero => exact h
        | succ j => have := hL.no j (by omega); rwa [show p + 1 + j = p + (j + 1) by omega] at this
      · have := hL.stop; rwa [show p + 1 + L = p + (L + 1) by omega] at this
theorem line_at (ds : List Int) (p : Nat) (hp : p ≤ ds.length) : ∃ L, IsLine ds p L := line_there ds (ds.length - p) p (by omega)

theorem linesOf_length (C : Nat) (ds : List Int) : (linesOf C ds).length ≤ ds.length := by
  unfold linesOf
  rw [List.length_map]
  induction ds with
  | nil => simp [pieces]
  | cons x xs ih =>
    simp only [pieces]
    split
    · simp; exact ih
    · split
      · simp
      · next h t e => rw [e] at ih; simp at ih ⊢; omega
end Go.Proofs.Qxb6612819aDoor
