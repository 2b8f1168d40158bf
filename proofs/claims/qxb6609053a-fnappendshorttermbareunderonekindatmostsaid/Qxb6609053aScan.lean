/-
  digits (23), exponent (24), scanNumber (19): what they compute, in the plain law's words.
-/
import Derived.Test.Qxb6609053aRows
import Derived.Test.Qxb6609053aPlain
import Derived.WalkKit
import Derived.WalkSpells
import Derived.WalkLawsBesides
import Derived.Lib.Strings
namespace Go.Proofs.Qxb6609053a
open Go.RowKit

def txt (s : ByteArray) : List UInt8 := s.data.toList
theorem txt_length (s : ByteArray) : (txt s).length = s.size := by simp [txt]
theorem txt_get (s : ByteArray) (k : Nat) (h : k < s.size) : (txt s)[k]? = some s[k] := by
  unfold txt
  rw [List.getElem?_eq_getElem (by simpa using h)]; rfl
theorem txt_drop (s : ByteArray) (k : Nat) (h : k < s.size) : (txt s).drop k = s[k] :: (txt s).drop (k + 1) := by
  unfold txt
  rw [List.drop_eq_getElem_cons (by simpa using h)]; rfl
theorem txt_extract (s : ByteArray) (k : Nat) : txt (s.extract k s.size) = (txt s).drop k := by
  unfold txt
  rw [Lib.extract_data]
  refine List.take_of_length_le ?_
  rw [List.length_drop, Array.length_toList]
  exact Nat.le_refl _

theorem dig_of {c : UInt8} (h1 : (48 : Int) ≤ (c.toNat : Int)) (h2 : (c.toNat : Int) ≤ 57) : Pl.dig c = true := by
  unfold Pl.dig; rw [decide_eq_true_eq]; omega
theorem dig_not {c : UInt8} (h : ¬ ((48 : Int) ≤ (c.toNat : Int) ∧ (c.toNat : Int) ≤ 57)) : Pl.dig c = false := by
  unfold Pl.dig; rw [decide_eq_false_iff_not]; omega

theorem digits_end (s : ByteArray) (k : Nat) (hk : k ≤ s.size) (h1 : ∀ j (h : j < s.size), j < k → Pl.dig s[j] = true) (h2 : ∀ h : k < s.size, Pl.dig s[k] = false) : Pl.digits (txt s) = k := by
  have e := List.take_append_drop k (txt s)
  rw [← e, Pl.digits_of]
  · rw [List.length_take, txt_length]; omega
  · intro c hc
    obtain ⟨j, hj, rfl⟩ := List.mem_iff_getElem.1 hc
    rw [List.length_take, txt_length] at hj
    have := h1 j (by omega) (by omega)
    rw [List.getElem_take]
    exact this
  · by_cases h : k < s.size
    · exact .inr ⟨_, _, txt_drop s k h, h2 h⟩
    · exact .inl (List.drop_eq_nil_of_le (by rw [txt_length]; omega))

set_option maxHeartbeats 400000 in
theorem digits_any (s : ByteArray) (w : World) (hs : s.size ≤ 1048576) :
    Calls Try.prog 23 #[.string s] w fun e w' => e = .returned (.int .i64 (Pl.digits (txt s))) ∧ w' = w := by
  go_enter Try.func23, Try.ntmps23
  go_wp2
  go_loop [3] (fun i => ∃ k : Nat, k ≤ s.size ∧ i = .int .i64 k ∧ (∀ j (h : j < s.size), j < k → Pl.dig s[j] = true)) (fun i => s.size - (intOf i).toNat)
  case atStart => exact ⟨0, Nat.zero_le _, rfl, fun j _ h => by omega⟩
  case round =>
    obtain ⟨k, hk, rfl, hd⟩ := hrel
    have HD : Hid (∀ j (h : j < s.size), j < k → Pl.dig s[j] = true) := hd
    clear hd
    by_cases hlt : k < s.size
    · by_cases hdg : (48 : Int) ≤ (s[k].toNat : Int) ∧ (s[k].toNat : Int) ≤ 57
      · obtain ⟨h1, h2⟩ := hdg
        go_wp2
        go_round
        case rel =>
          refine ⟨k + 1, by omega, by go_num, fun j h hj => ?_⟩
          by_cases e : j = k
          · subst e; exact dig_of h1 h2
          · exact HD.out j h (by omega)
        case measure => simp [intOf]; omega
      · have HE : Hid (Pl.digits (txt s) = k) := digits_end s k hk HD.out (fun _ => dig_not hdg)
        by_cases h1 : (48 : Int) ≤ (s[k].toNat : Int)
        · have h2 : ¬ (s[k].toNat : Int) ≤ 57 := fun h => hdg ⟨h1, h⟩
          clear hdg
          go_wp2
          go_ret
          exact ⟨congrArg (fun n : Nat => Ending.returned (.int .i64 (n : Int))) HE.out.symm, rfl⟩
        · clear hdg
          go_wp2
          go_ret
          exact ⟨congrArg (fun n : Nat => Ending.returned (.int .i64 (n : Int))) HE.out.symm, rfl⟩
    · have HE : Hid (Pl.digits (txt s) = k) := digits_end s k hk HD.out (fun h => absurd h hlt)
      go_wp2
      go_ret
      exact ⟨congrArg (fun n : Nat => Ending.returned (.int .i64 (n : Int))) HE.out.symm, rfl⟩

theorem digits_c (s : ByteArray) (d : Nat) (w : World) (hs : s.size ≤ 1048576) (h : Hid (Pl.digits (txt s) = d)) :
    Calls Try.prog 23 #[.string s] w fun e w' => e = .returned (.int .i64 (d : Int)) ∧ w' = w := by
  have := digits_any s w hs
  rw [h.out] at this
  exact this

theorem digits_le (l : List UInt8) : Pl.digits l ≤ l.length := by
  unfold Pl.digits
  exact (List.takeWhile_prefix _).length_le

theorem isE_of {c : UInt8} (h : ((c.toNat : Int) == 101) = true ∨ ((c.toNat : Int) == 69) = true) : Pl.isE c = true := by
  unfold Pl.isE
  rcases h with h | h
  · have h1 : (c.toNat : Int) = 101 := by simpa using h
    have : c = 101 := UInt8.toNat_inj.1 (by show c.toNat = 101; omega)
    subst this; rfl
  · have h1 : (c.toNat : Int) = 69 := by simpa using h
    have : c = 69 := UInt8.toNat_inj.1 (by show c.toNat = 69; omega)
    subst this; rfl
theorem isE_not {c : UInt8} (h1 : ((c.toNat : Int) == 101) = false) (h2 : ((c.toNat : Int) == 69) = false) : Pl.isE c = false := by
  unfold Pl.isE
  rw [Bool.eq_false_iff]; intro e
  rw [Bool.or_eq_true, beq_iff_eq, beq_iff_eq] at e
  rcases e with rfl | rfl
  · simp at h1
  · simp at h2
theorem isS_of {c : UInt8} (h : ((c.toNat : Int) == 43) = true ∨ ((c.toNat : Int) == 45) = true) : Pl.isS c = true := by
  unfold Pl.isS
  rcases h with h | h
  · have h1 : (c.toNat : Int) = 43 := by simpa using h
    have : c = 43 := UInt8.toNat_inj.1 (by show c.toNat = 43; omega)
    subst this; rfl
  · have h1 : (c.toNat : Int) = 45 := by simpa using h
    have : c = 45 := UInt8.toNat_inj.1 (by show c.toNat = 45; omega)
    subst this; rfl
theorem isS_not {c : UInt8} (h1 : ((c.toNat : Int) == 43) = false) (h2 : ((c.toNat : Int) == 45) = false) : Pl.isS c = false := by
  unfold Pl.isS
  rw [Bool.eq_false_iff]; intro e
  rw [Bool.or_eq_true, beq_iff_eq, beq_iff_eq] at e
  rcases e with rfl | rfl
  · simp at h1
  · simp at h2

/-- The sign at place k, in the walk's words. -/
theorem sgn_at (s : ByteArray) (k : Nat) : Pl.sgn ((txt s).drop k) = 0 ∨ Pl.sgn ((txt s).drop k) = 1 := by
  cases (txt s).drop k with
  | nil => exact .inl rfl
  | cons c r => unfold Pl.sgn; split <;> simp

set_option maxHeartbeats 1000000 in
theorem exponent_any (s : ByteArray) (w : World) (hs : s.size ≤ 1048576) :
    Calls Try.prog 24 #[.string s] w fun e w' => e = .returned (.int .i64 (Pl.expo (txt s))) ∧ w' = w := by
  by_cases h0 : s.size = 0
  · have hz : s.toList.isEmpty = true := by rw [Lib.toList_data]; exact List.isEmpty_iff.2 (List.eq_nil_of_length_eq_zero (by simpa using h0))
    have HE : Hid (Pl.expo (txt s) = 0) := by
      have : txt s = [] := List.eq_nil_of_length_eq_zero (by rw [txt_length]; exact h0)
      show _ = _; rw [this]; rfl
    go_enter Try.func24, Try.ntmps24
    go_wp2
    go_ret
    exact ⟨congrArg (fun n : Nat => Ending.returned (.int .i64 (n : Int))) HE.out.symm, rfl⟩
  · have hp : 0 < s.size := by omega
    have hz : s.toList.isEmpty = false := by
      rw [Lib.toList_data, Bool.eq_false_iff]; intro h
      have := congrArg List.length (List.isEmpty_iff.1 h); rw [List.length_nil, Array.length_toList] at this; exact h0 this
    have ht := txt_drop s 0 hp
    rw [List.drop_zero] at ht
    by_cases hE : ((s[0].toNat : Int) == 101) = false ∧ ((s[0].toNat : Int) == 69) = false
    · obtain ⟨h1, h2⟩ := hE
      have HE : Hid (Pl.expo (txt s) = 0) := by
        show _ = _; rw [ht]; simp [Pl.expo, isE_not h1 h2]
      have h1' : ((s[0].toNat : Int) != 101) = true := by simp [bne, h1]
      have h2' : ((s[0].toNat : Int) != 69) = true := by simp [bne, h2]
      clear ht h1 h2
      go_enter Try.func24, Try.ntmps24
      go_wp2
      go_ret
      exact ⟨congrArg (fun n : Nat => Ending.returned (.int .i64 (n : Int))) HE.out.symm, rfl⟩
    · have hE1 : Pl.isE s[0] = true := by
        apply isE_of
        cases h1 : ((s[0].toNat : Int) == 101)
        · cases h2 : ((s[0].toNat : Int) == 69)
          · exact absurd ⟨h1, h2⟩ hE
          · exact .inr rfl
        · exact .inl rfl
      have HX : Hid (Pl.expo (txt s) = if 0 < Pl.digits ((txt s).drop (1 + Pl.sgn ((txt s).drop 1))) then 1 + Pl.sgn ((txt s).drop 1) + Pl.digits ((txt s).drop (1 + Pl.sgn ((txt s).drop 1))) else 0) := by
        show _ = _
        rw [ht]
        simp only [Pl.expo, hE1, if_true, List.drop_succ_cons, List.drop_zero, Nat.zero_add]
        rw [show 1 + Pl.sgn ((txt s).drop 1) = Pl.sgn ((txt s).drop 1) + 1 by omega, List.drop_succ_cons]
      have hsg : (¬ 1 < s.size ∧ Pl.sgn ((txt s).drop 1) = 0) ∨ (∃ h : 1 < s.size, ((s[1].toNat : Int) == 43) = false ∧ ((s[1].toNat : Int) == 45) = false ∧ Pl.sgn ((txt s).drop 1) = 0) ∨
          (∃ h : 1 < s.size, ((s[1].toNat : Int) == 43) = true ∧ Pl.sgn ((txt s).drop 1) = 1) ∨ (∃ h : 1 < s.size, ((s[1].toNat : Int) == 43) = false ∧ ((s[1].toNat : Int) == 45) = true ∧ Pl.sgn ((txt s).drop 1) = 1) := by
        by_cases h1 : 1 < s.size
        · have ht1 := txt_drop s 1 h1
          right
          cases h43 : ((s[1].toNat : Int) == 43)
          · cases h45 : ((s[1].toNat : Int) == 45)
            · exact .inl ⟨h1, h43, h45, by rw [ht1]; simp [Pl.sgn, isS_not h43 h45]⟩
            · exact .inr (.inr ⟨h1, h43, h45, by rw [ht1]; simp [Pl.sgn, isS_of (.inr h45)]⟩)
          · exact .inr (.inl ⟨h1, h43, by rw [ht1]; simp [Pl.sgn, isS_of (.inl h43)]⟩)
        · exact .inl ⟨h1, by rw [List.drop_eq_nil_of_le (by rw [txt_length]; omega)]; rfl⟩
      have hE2 : ((s[0].toNat : Int) != 101) = false ∨ (((s[0].toNat : Int) != 101) = true ∧ ((s[0].toNat : Int) != 69) = false) := by
        cases h1 : ((s[0].toNat : Int) == 101)
        · cases h2 : ((s[0].toNat : Int) == 69)
          · exact absurd ⟨h1, h2⟩ hE
          · exact .inr ⟨by simp [bne, h1], by simp [bne, h2]⟩
        · exact .inl (by simp [bne, h1])
      have hdl := digits_le ((txt s).drop (1 + Pl.sgn ((txt s).drop 1)))
      rw [List.length_drop, txt_length] at hdl
      clear hE hE1 ht
      obtain ⟨D, hD⟩ : ∃ D, Pl.digits ((txt s).drop (1 + Pl.sgn ((txt s).drop 1))) = D := ⟨_, rfl⟩
      rw [hD] at hdl HX
      rcases hsg with ⟨g1, g4⟩ | ⟨g1, g2, g3, g4⟩ | ⟨g1, g2, g4⟩ | ⟨g1, g2, g3, g4⟩
      · rw [g4] at HX hD hdl
        have HD : Hid (Pl.digits (txt (s.extract 1 s.size)) = D) := by show _ = _; rw [txt_extract]; exact hD
        clear hD g4
        rcases hE2 with e1 | ⟨e1, e2⟩
        all_goals
          go_enter Try.func24, Try.ntmps24
          go_wp2_with (go_at_call 23; refine (digits_c _ D _ (by rw [ByteArray.size_extract]; omega) HD).mono ?_; rintro e w' ⟨rfl, rfl⟩)
          go_ret
          exact ⟨congrArg (fun n : Int => Ending.returned (.int .i64 n)) (by rw [HX.out, if_neg (by omega)]; rfl), rfl⟩
      · rw [g4] at HX hD hdl
        have HD : Hid (Pl.digits (txt (s.extract 1 s.size)) = D) := by show _ = _; rw [txt_extract]; exact hD
        clear hD g4
        rcases hE2 with e1 | ⟨e1, e2⟩
        all_goals
          go_enter Try.func24, Try.ntmps24
          go_wp2_with (go_at_call 23; refine (digits_c _ D _ (by rw [ByteArray.size_extract]; omega) HD).mono ?_; rintro e w' ⟨rfl, rfl⟩)
          · go_ret
            exact ⟨congrArg (fun n : Int => Ending.returned (.int .i64 n)) (by rw [HX.out, if_pos (by omega)]; omega), rfl⟩
          · go_ret
            exact ⟨congrArg (fun n : Int => Ending.returned (.int .i64 n)) (by rw [HX.out, if_neg (by omega)]; rfl), rfl⟩
      · rw [g4] at HX hD hdl
        have HD : Hid (Pl.digits (txt (s.extract 2 s.size)) = D) := by show _ = _; rw [txt_extract]; exact hD
        clear hD g4
        rcases hE2 with e1 | ⟨e1, e2⟩
        all_goals
          go_enter Try.func24, Try.ntmps24
          go_wp2_with (go_at_call 23; refine (digits_c _ D _ (by rw [ByteArray.size_extract]; omega) HD).mono ?_; rintro e w' ⟨rfl, rfl⟩)
          · go_ret
            exact ⟨congrArg (fun n : Int => Ending.returned (.int .i64 n)) (by rw [HX.out, if_pos (by omega)]; omega), rfl⟩
          · go_ret
            exact ⟨congrArg (fun n : Int => Ending.returned (.int .i64 n)) (by rw [HX.out, if_neg (by omega)]; rfl), rfl⟩
      · rw [g4] at HX hD hdl
        have HD : Hid (Pl.digits (txt (s.extract 2 s.size)) = D) := by show _ = _; rw [txt_extract]; exact hD
        clear hD g4
        rcases hE2 with e1 | ⟨e1, e2⟩
        all_goals
          go_enter Try.func24, Try.ntmps24
          go_wp2_with (go_at_call 23; refine (digits_c _ D _ (by rw [ByteArray.size_extract]; omega) HD).mono ?_; rintro e w' ⟨rfl, rfl⟩)
          · go_ret
            exact ⟨congrArg (fun n : Int => Ending.returned (.int .i64 n)) (by rw [HX.out, if_pos (by omega)]; omega), rfl⟩
          · go_ret
            exact ⟨congrArg (fun n : Int => Ending.returned (.int .i64 n)) (by rw [HX.out, if_neg (by omega)]; rfl), rfl⟩

theorem exponent_c (s : ByteArray) (d : Nat) (w : World) (hs : s.size ≤ 1048576) (h : Hid (Pl.expo (txt s) = d)) :
    Calls Try.prog 24 #[.string s] w fun e w' => e = .returned (.int .i64 (d : Int)) ∧ w' = w := by
  have := exponent_any s w hs
  rw [h.out] at this
  exact this

theorem expo_le : ∀ (l : List UInt8), Pl.expo l ≤ l.length
  | [] => by simp [Pl.expo]
  | c :: r => by
    have hs : Pl.sgn r ≤ r.length := by cases r with | nil => simp [Pl.sgn] | cons d l => simp only [Pl.sgn, List.length_cons]; split <;> omega
    have hd := digits_le (r.drop (Pl.sgn r))
    rw [List.length_drop] at hd
    simp only [Pl.expo, List.length_cons]
    split
    · split <;> omega
    · omega
end Go.Proofs.Qxb6609053a
