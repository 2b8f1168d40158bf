/-
  AppendShortTerm in the law's words: a hit (bare) just at kind 3 and one datatype; else a miss (longer). And the count of hits, plain.
-/
import Derived.Test.Qxb6609053aShort
namespace Go.Proofs.Qxb6609053a
open Go.RowKit

def valN (s : ByteArray) : List Int := (txt s).map fun b => (b.toNat : Int)
theorem valN_length (s : ByteArray) : (valN s).length = s.size := by rw [valN, List.length_map, txt_length]
theorem valN_cells (s : ByteArray) : Lib.strCells s = (valN s).map iv := by
  unfold Lib.strCells valN iv txt
  rw [List.map_map]; rfl

def isB (val : ByteArray) : Bool := (val.toList == [116, 114, 117, 101]) || (val.toList == [102, 97, 108, 115, 101])
/-- The place of the datatype under which the form is bare: 9: none. -/
def hitAt (val : ByteArray) : Nat := if kind val = 0 then (if isB val then 3 else 9) else kind val - 1

theorem txt_toList (s : ByteArray) : s.toList = txt s := Lib.toList_data s

theorem isB_kind {val : ByteArray} (h : isB val = true) : kind val = 0 := by
  unfold isB at h
  rw [Bool.or_eq_true, beq_iff_eq, beq_iff_eq, txt_toList] at h
  unfold kind tl
  rcases h with h | h <;> (rw [h]; decide)
theorem isB_size {val : ByteArray} (h : isB val = true) : val.toList.isEmpty = false := by
  unfold isB at h
  rw [Bool.or_eq_true, beq_iff_eq, beq_iff_eq] at h
  rcases h with h | h <;> (rw [h]; rfl)

theorem dt_eq : ∀ (i j : Nat), i ≤ 3 → 1 ≤ j → j ≤ 5 → ((dtS i).toList == (dtS j).toList) = decide (i = j) := by
  intro i j hi h1 h2
  have hi' : i = 0 ∨ i = 1 ∨ i = 2 ∨ i = 3 := by omega
  have hj' : j = 1 ∨ j = 2 ∨ j = 3 ∨ j = 4 ∨ j = 5 := by omega
  rcases hi' with rfl | rfl | rfl | rfl <;> rcases hj' with rfl | rfl | rfl | rfl | rfl <;> (simp only [txt_toList]; decide)
theorem dt_eq' : ∀ (i j : Nat), i ≤ 3 → 1 ≤ j → j ≤ 5 → ((dtS j).toList == (dtS i).toList) = decide (i = j) := by
  intro i j hi h1 h2
  have hi' : i = 0 ∨ i = 1 ∨ i = 2 ∨ i = 3 := by omega
  have hj' : j = 1 ∨ j = 2 ∨ j = 3 ∨ j = 4 ∨ j = 5 := by omega
  rcases hi' with rfl | rfl | rfl | rfl <;> rcases hj' with rfl | rfl | rfl | rfl | rfl <;> (simp only [txt_toList]; decide)
theorem dt_bool : ∀ (j : Nat), 1 ≤ j → j ≤ 5 → ((dtS j).toList == [104, 116, 116, 112, 58, 47, 47, 119, 119, 119, 46, 119, 51, 46, 111, 114, 103, 47, 50, 48, 48, 49, 47, 88, 77, 76, 83, 99, 104, 101, 109, 97, 35, 98, 111, 111, 108, 101, 97, 110]) = decide (j = 4) := by
  intro j h1 h2
  have hj' : j = 1 ∨ j = 2 ∨ j = 3 ∨ j = 4 ∨ j = 5 := by omega
  rcases hj' with rfl | rfl | rfl | rfl | rfl <;> (rw [txt_toList]; decide)
theorem dt_empty : ∀ (i : Nat), i ≤ 3 → (dtS i).toList.isEmpty = decide (i = 0) := by
  intro i hi
  have hi' : i = 0 ∨ i = 1 ∨ i = 2 ∨ i = 3 := by omega
  rcases hi' with rfl | rfl | rfl | rfl <;> (rw [txt_toList]; decide)
theorem dt_size (j : Nat) : (dtS j).size ≤ 262144 := by
  unfold dtS
  split <;> decide

theorem scan_le3 (t : List UInt8) : (Pl.scanT t).2 ≤ 3 := by
  unfold Pl.scanT
  split
  · exact Nat.zero_le _
  · split
    · exact Nat.le_refl _
    · split <;> simp
theorem scanR_le3 (s : ByteArray) : (scanR s).2 ≤ 3 := by
  unfold scanR
  split
  · exact Nat.zero_le _
  · exact scan_le3 _

theorem bare_hit (k d : Nat) (hd : d ≤ 4) (val : ByteArray) : bareB (k : Int) val (dtS (d + 1)) = (decide (k = 3) && decide (d = hitAt val)) := by
  unfold bareB
  have hk3 : ((k : Int) == 3) = decide (k = 3) := by
    rw [Bool.eq_iff_iff, beq_iff_eq, decide_eq_true_eq]; omega
  have hk := kind_le val
  have hks := kind_scan val
  have hs3 := scanR_le3 val
  have hn : (((scanR val).1 : Int) == (val.size : Int)) = decide ((scanR val).1 = val.size) := by
    rw [Bool.eq_iff_iff, beq_iff_eq, decide_eq_true_eq]; omega
  rw [hk3, hn, dt_eq _ _ hs3 (by omega) (by omega), dt_bool _ (by omega) (by omega)]
  by_cases h3 : k = 3
  · simp only [h3, decide_true, Bool.true_and]
    unfold hitAt
    cases hb : isB val
    · have hb' : ((val.toList == [116, 114, 117, 101]) || (val.toList == [102, 97, 108, 115, 101])) = false := hb
      rw [hb', Bool.and_false, Bool.or_false]
      cases he : val.toList.isEmpty
      · rw [Bool.not_false, Bool.true_and, Bool.eq_iff_iff]
        simp only [Bool.and_eq_true, decide_eq_true_eq, Bool.false_eq_true, if_false]
        by_cases hsz : (scanR val).1 = val.size
        · rw [if_pos hsz] at hks
          by_cases hk0 : kind val = 0
          · rw [if_pos hk0]; omega
          · rw [if_neg hk0]; omega
        · rw [if_neg hsz] at hks
          rw [if_pos hks]
          omega
      · have hsz : val.size = 0 := by
          rw [txt_toList] at he
          have := congrArg List.length (List.isEmpty_iff.1 he)
          rw [txt_length] at this; exact this
        have hk0 : kind val = 0 := by
          unfold kind tl
          rw [List.eq_nil_of_length_eq_zero (l := txt val) (by rw [txt_length]; exact hsz)]; rfl
        rw [if_pos hk0]
        simp
        omega
    · have hb' : ((val.toList == [116, 114, 117, 101]) || (val.toList == [102, 97, 108, 115, 101])) = true := hb
      have hk0 := isB_kind hb
      rw [hb', isB_size hb, if_pos hk0, if_pos rfl, Bool.and_true, Bool.not_false, Bool.true_and, Bool.eq_iff_iff]
      simp only [Bool.or_eq_true, Bool.and_eq_true, decide_eq_true_eq]
      by_cases hsz : (scanR val).1 = val.size
      · rw [if_pos hsz] at hks
        omega
      · omega
  · simp [h3]

theorem Rd_own {w' : World} {B g n cap : Nat} {xs : List Int} {ys : List Value} (h : w'.ownsRow B 5 1 (.slice (some ⟨g, 0, none⟩) n cap) n (xs.map iv ++ ys)) (hg : g < w'.heap.size) : Rd w' (some ⟨g, 0, none⟩) xs := by
  refine .inr ⟨g, 0, rfl, hg, fun j hj => ?_⟩
  have hl := h.1
  rw [List.length_append, List.length_map, Nat.mul_one] at hl
  rw [Nat.zero_add, h.cellAt j (by omega), List.getElem?_append_left (by rw [List.length_map]; exact hj), List.getElem?_map, List.getElem?_eq_getElem hj, List.getD_eq_getElem?_getD, List.getElem?_eq_getElem hj]
  rfl

/-- A hit. -/
theorem short_hit (k : Int) (ao : Option Addr) (xs : List Int) (val dt lang : ByteArray) (w : World) (ht : Tight w ao (xs.map iv)) (hn : xs.length ≤ 262144) (hv : val.size ≤ 262144) (hB : bareB k val dt = true) :
    Calls Try.prog 14 #[.slice ao xs.length xs.length, .agg #[.int .u8 k, .string val, .string dt, .string lang]] w fun e w' =>
      ∃ g cap, e = .returned (.slice (some ⟨g, 0, none⟩) (xs.length + val.size) cap) ∧ Rd w' (some ⟨g, 0, none⟩) (xs ++ valN val) ∧ Rd w' (some ⟨g, 0, none⟩) xs ∧ Below w.heap.size w w' := by
  have hp : 0 < val.size := by
    refine pos_of ?_
    unfold bareB at hB
    cases he : val.toList.isEmpty
    · rfl
    · rw [he] at hB; simp at hB
  have h := short_bare k ao (xs.map iv) val dt lang w ht (by rw [List.length_map]; exact hn) hv hB
  rw [List.length_map] at h
  refine h.mono ?_
  rintro e w' ⟨v', rfl, hown, hbel⟩
  rw [List.length_map] at hown
  obtain ⟨g, cap, rfl, _, hg⟩ := hown.form (by omega)
  refine ⟨g, cap, rfl, ?_, Rd_own hown hg, hbel⟩
  rw [valN_cells, ← List.map_append] at hown
  have hown2 : w'.ownsRow w.heap.size 5 1 (.slice (some ⟨g, 0, none⟩) (xs.length + val.size) cap) (xs.length + val.size) ((xs ++ valN val).map iv ++ []) := by rw [List.append_nil]; exact hown
  exact Rd_own hown2 hg

/-- A miss. -/
theorem short_miss (k : Int) (ao : Option Addr) (xs : List Int) (val dt lang : ByteArray) (w : World) (ht : Tight w ao (xs.map iv)) (hn : xs.length ≤ 262144) (hv : val.size ≤ 262144) (hd : dt.size ≤ 262144) (hl : lang.size ≤ 262144) (hB : bareB k val dt = false) :
    Calls Try.prog 14 #[.slice ao xs.length xs.length, .agg #[.int .u8 k, .string val, .string dt, .string lang]] w fun e w' =>
      ∃ g n' cap, e = .returned (.slice (some ⟨g, 0, none⟩) n' cap) ∧ xs.length + val.size < n' ∧ Rd w' (some ⟨g, 0, none⟩) xs ∧ Below w.heap.size w w' := by
  have h := short_long k ao (xs.map iv) val dt lang w ht (by rw [List.length_map]; exact hn) hv hd hl hB
  rw [List.length_map] at h
  refine h.mono ?_
  rintro e w' ⟨v', n', rfl, hr, hn'⟩
  obtain ⟨ys, hown⟩ := hr.own
  obtain ⟨g, cap, rfl, _, hg⟩ := hown.form (by omega)
  exact ⟨g, n', cap, rfl, hn', Rd_own hown hg, hr.below⟩

/-- How many hits come before the pair (k, d), the place of the hit being T. -/
def cnt (T k d : Nat) : Nat := if T ≤ 4 ∧ (3 < k ∨ (k = 3 ∧ T < d)) then 1 else 0
theorem cnt_hit (T : Nat) (h : T ≤ 4) : cnt T 3 (T + 1) = cnt T 3 T + 1 := by
  unfold cnt; rw [if_pos (by omega), if_neg (by omega)]
theorem cnt_miss (T k d : Nat) (h : ¬ (k = 3 ∧ d = T)) : cnt T k (d + 1) = cnt T k d := by
  unfold cnt
  by_cases h1 : T ≤ 4 ∧ (3 < k ∨ (k = 3 ∧ T < d))
  · rw [if_pos h1, if_pos (by omega)]
  · rw [if_neg h1, if_neg (by omega)]
theorem cnt_row (T k : Nat) : cnt T k 5 = cnt T (k + 1) 0 := by
  unfold cnt
  by_cases h1 : T ≤ 4 ∧ (3 < k ∨ (k = 3 ∧ T < 5))
  · rw [if_pos h1, if_pos (by omega)]
  · rw [if_neg h1, if_neg (by omega)]
theorem cnt_le (T k d : Nat) : cnt T k d ≤ 1 := by unfold cnt; split <;> omega
theorem cnt_end (T : Nat) : cnt T 5 0 = if T ≤ 4 then 1 else 0 := by
  unfold cnt
  by_cases h1 : T ≤ 4
  · rw [if_pos h1, if_pos (by omega)]
  · rw [if_neg h1, if_neg (by omega)]

theorem hitAt_yes {val : ByteArray} (h : kind val ≠ 0 ∨ isB val = true) : hitAt val ≤ 4 := by
  have := kind_le val
  unfold hitAt
  by_cases h0 : kind val = 0
  · rw [if_pos h0]
    rcases h with h | h
    · exact absurd h0 h
    · rw [if_pos h]; omega
  · rw [if_neg h0]; omega
theorem hitAt_no {val : ByteArray} (h : kind val = 0) (hb : isB val = false) : hitAt val = 9 := by
  unfold hitAt; rw [if_pos h, hb]; rfl
end Go.Proofs.Qxb6609053a
