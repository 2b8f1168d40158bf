/-
  AppendShortTerm (14): bare just where the literal's form is a number of its datatype or a boolean; else longer than b and the form.
-/
import Derived.Test.Qxb6609053aTerm2
import Derived.Test.Qxb6609053aSmall
import Derived.Test.Qxb6609053aScan3
import Derived.Test.Qxb6609053aNum2
namespace Go.Proofs.Qxb6609053a
open Go.RowKit

theorem term_any (k : Int) (ao : Option Addr) (bs : List Value) (val dt lang : ByteArray) (w : World) (ht : Tight w ao bs) (hn : bs.length ≤ 262144) (hv : val.size ≤ 262144) (hd : dt.size ≤ 262144) (hl : lang.size ≤ 262144) :
    Calls Try.prog 20 #[.slice ao bs.length bs.length, .agg #[.int .u8 k, .string val, .string dt, .string lang]] w fun e w' => Longer w bs (bs.length + val.size) e w' := by
  by_cases h1 : k = 1
  · subst h1; exact term_iri ao bs val dt lang w ht hn hv
  · by_cases h2 : k = 2
    · subst h2; exact term_blank ao bs val dt lang w ht hn hv
    · exact term_lit k (by rw [beq_eq_false_iff_ne]; exact h1) (by rw [beq_eq_false_iff_ne]; exact h2) ao bs val dt lang w ht hn hv hd hl

theorem longer_up {w w' : World} {o : Obj} {bs : List Value} {n : Nat} {e : Ending} (h : Longer (w.alloc o) bs n e w') : Longer w bs n e w' := by
  obtain ⟨v', n', he, hr, hn⟩ := h
  obtain ⟨ys, hy⟩ := hr.own
  have hb := hr.base
  rw [World.size_alloc] at hy hb
  have hbel := hr.below
  rw [World.size_alloc] at hbel
  exact ⟨v', n', he, ⟨⟨ys, own_base hy (by omega)⟩, ((Below.refl _ _).alloc (Nat.le_refl _) o).trans (hbel.mono (by omega)), by omega⟩, hn⟩

/-- What a bare append leaves. -/
def Bare (w : World) (bs : List Value) (val : ByteArray) (e : Ending) (w' : World) : Prop :=
  ∃ v', e = .returned v' ∧ w'.ownsRow w.heap.size 5 1 v' (bs.length + val.size) (bs ++ Lib.strCells val) ∧ Below w.heap.size w w'

theorem t_bare (w : World) (o : Obj) (ao : Option Addr) (bs : List Value) (ty : TypeId) (s : ByteArray) (ht : Tight w ao bs) (hn : bs.length ≤ 262144) (h0 : 0 < s.size) (hs : s.size ≤ 1048576) :
    ∃ v' w', (Builtin.append_ #[24, 9] ty #[.slice ao bs.length bs.length, .string s]).run Try.prog (w.alloc o) = .ok v' w' ∧ Bare w bs s (.returned v') w' := by
  have hb : Below w.heap.size w (w.alloc o) := (Below.refl _ _).alloc (Nat.le_refl _) o
  obtain ⟨v', w', h1, h2, h3⟩ := run_tight_str w.heap.size w (w.alloc o) ao bs ty s hb (by simp) (ht.below hb (Nat.le_refl _)) h0 (by omega)
  exact ⟨v', w', h1, v', rfl, h3, h2.row.below⟩

set_option maxHeartbeats 1000000 in
theorem sb1 (k : Int) (ao : Option Addr) (bs : List Value) (val dt lang : ByteArray) (w : World) (ht : Tight w ao bs) (hn : bs.length ≤ 262144) (hv : val.size ≤ 262144) (h3 : (k == 3) = true) (h4 : val.toList.isEmpty = false) (hp : 0 < val.size) (h5 : (((scanR val).1 : Int) == (val.size : Int)) = true) (h6 : ((dtS (scanR val).2).toList == dt.toList) = true) :
    Calls Try.prog 14 #[.slice ao bs.length bs.length, .agg #[.int .u8 k, .string val, .string dt, .string lang]] w fun e w' => Bare w bs val e w' := by
  go_enter Try.func14, Try.ntmps14
  go_wp2_with (first | (go_at_call 19; refine (scan_any _ _ (by omega) hp).mono ?_; rintro e w' ⟨rfl, rfl⟩) | (at_builtin; refine list_append rfl (.tmp 32) (.tmp 34) 24 9 rfl (v1 := .slice ao bs.length bs.length) (v2 := .string val) rfl rfl (t_bare w _ ao bs _ val ht hn hp (by omega)) ?_; intro v1 w1 h1))
  go_ret
  exact h1

set_option maxHeartbeats 1000000 in
theorem sb2 (k : Int) (ao : Option Addr) (bs : List Value) (val dt lang : ByteArray) (w : World) (ht : Tight w ao bs) (hn : bs.length ≤ 262144) (hv : val.size ≤ 262144) (h3 : (k == 3) = true) (h4 : val.toList.isEmpty = false) (hp : 0 < val.size) (h5 : (((scanR val).1 : Int) == (val.size : Int)) = false) (h7 : (dt.toList == [104, 116, 116, 112, 58, 47, 47, 119, 119, 119, 46, 119, 51, 46, 111, 114, 103, 47, 50, 48, 48, 49, 47, 88, 77, 76, 83, 99, 104, 101, 109, 97, 35, 98, 111, 111, 108, 101, 97, 110]) = true) (h8 : (val.toList == [116, 114, 117, 101]) = true) :
    Calls Try.prog 14 #[.slice ao bs.length bs.length, .agg #[.int .u8 k, .string val, .string dt, .string lang]] w fun e w' => Bare w bs val e w' := by
  go_enter Try.func14, Try.ntmps14
  go_wp2_with (first | (go_at_call 19; refine (scan_any _ _ (by omega) hp).mono ?_; rintro e w' ⟨rfl, rfl⟩) | (at_builtin; refine list_append rfl (.tmp 49) (.tmp 51) 24 9 rfl (v1 := .slice ao bs.length bs.length) (v2 := .string val) rfl rfl (t_bare w _ ao bs _ val ht hn hp (by omega)) ?_; intro v1 w1 h1))
  go_ret
  exact h1

set_option maxHeartbeats 1000000 in
theorem sb3 (k : Int) (ao : Option Addr) (bs : List Value) (val dt lang : ByteArray) (w : World) (ht : Tight w ao bs) (hn : bs.length ≤ 262144) (hv : val.size ≤ 262144) (h3 : (k == 3) = true) (h4 : val.toList.isEmpty = false) (hp : 0 < val.size) (h5 : (((scanR val).1 : Int) == (val.size : Int)) = false) (h7 : (dt.toList == [104, 116, 116, 112, 58, 47, 47, 119, 119, 119, 46, 119, 51, 46, 111, 114, 103, 47, 50, 48, 48, 49, 47, 88, 77, 76, 83, 99, 104, 101, 109, 97, 35, 98, 111, 111, 108, 101, 97, 110]) = true) (h8 : (val.toList == [116, 114, 117, 101]) = false) (h9 : (val.toList == [102, 97, 108, 115, 101]) = true) :
    Calls Try.prog 14 #[.slice ao bs.length bs.length, .agg #[.int .u8 k, .string val, .string dt, .string lang]] w fun e w' => Bare w bs val e w' := by
  go_enter Try.func14, Try.ntmps14
  go_wp2_with (first | (go_at_call 19; refine (scan_any _ _ (by omega) hp).mono ?_; rintro e w' ⟨rfl, rfl⟩) | (at_builtin; refine list_append rfl (.tmp 49) (.tmp 51) 24 9 rfl (v1 := .slice ao bs.length bs.length) (v2 := .string val) rfl rfl (t_bare w _ ao bs _ val ht hn hp (by omega)) ?_; intro v1 w1 h1))
  go_ret
  exact h1

set_option maxHeartbeats 1000000 in
theorem sb4 (k : Int) (ao : Option Addr) (bs : List Value) (val dt lang : ByteArray) (w : World) (ht : Tight w ao bs) (hn : bs.length ≤ 262144) (hv : val.size ≤ 262144) (h3 : (k == 3) = true) (h4 : val.toList.isEmpty = false) (hp : 0 < val.size) (h5 : (((scanR val).1 : Int) == (val.size : Int)) = true) (h6 : ((dtS (scanR val).2).toList == dt.toList) = false) (h7 : (dt.toList == [104, 116, 116, 112, 58, 47, 47, 119, 119, 119, 46, 119, 51, 46, 111, 114, 103, 47, 50, 48, 48, 49, 47, 88, 77, 76, 83, 99, 104, 101, 109, 97, 35, 98, 111, 111, 108, 101, 97, 110]) = true) (h8 : (val.toList == [116, 114, 117, 101]) = true) :
    Calls Try.prog 14 #[.slice ao bs.length bs.length, .agg #[.int .u8 k, .string val, .string dt, .string lang]] w fun e w' => Bare w bs val e w' := by
  go_enter Try.func14, Try.ntmps14
  go_wp2_with (first | (go_at_call 19; refine (scan_any _ _ (by omega) hp).mono ?_; rintro e w' ⟨rfl, rfl⟩) | (at_builtin; refine list_append rfl (.tmp 49) (.tmp 51) 24 9 rfl (v1 := .slice ao bs.length bs.length) (v2 := .string val) rfl rfl (t_bare w _ ao bs _ val ht hn hp (by omega)) ?_; intro v1 w1 h1))
  go_ret
  exact h1

set_option maxHeartbeats 1000000 in
theorem sb5 (k : Int) (ao : Option Addr) (bs : List Value) (val dt lang : ByteArray) (w : World) (ht : Tight w ao bs) (hn : bs.length ≤ 262144) (hv : val.size ≤ 262144) (h3 : (k == 3) = true) (h4 : val.toList.isEmpty = false) (hp : 0 < val.size) (h5 : (((scanR val).1 : Int) == (val.size : Int)) = true) (h6 : ((dtS (scanR val).2).toList == dt.toList) = false) (h7 : (dt.toList == [104, 116, 116, 112, 58, 47, 47, 119, 119, 119, 46, 119, 51, 46, 111, 114, 103, 47, 50, 48, 48, 49, 47, 88, 77, 76, 83, 99, 104, 101, 109, 97, 35, 98, 111, 111, 108, 101, 97, 110]) = true) (h8 : (val.toList == [116, 114, 117, 101]) = false) (h9 : (val.toList == [102, 97, 108, 115, 101]) = true) :
    Calls Try.prog 14 #[.slice ao bs.length bs.length, .agg #[.int .u8 k, .string val, .string dt, .string lang]] w fun e w' => Bare w bs val e w' := by
  go_enter Try.func14, Try.ntmps14
  go_wp2_with (first | (go_at_call 19; refine (scan_any _ _ (by omega) hp).mono ?_; rintro e w' ⟨rfl, rfl⟩) | (at_builtin; refine list_append rfl (.tmp 49) (.tmp 51) 24 9 rfl (v1 := .slice ao bs.length bs.length) (v2 := .string val) rfl rfl (t_bare w _ ao bs _ val ht hn hp (by omega)) ?_; intro v1 w1 h1))
  go_ret
  exact h1

set_option maxHeartbeats 1000000 in
theorem sl1 (k : Int) (ao : Option Addr) (bs : List Value) (val dt lang : ByteArray) (w : World) (ht : Tight w ao bs) (hn : bs.length ≤ 262144) (hv : val.size ≤ 262144) (hd : dt.size ≤ 262144) (hl : lang.size ≤ 262144) (h3 : (k == 3) = true) (h4 : val.toList.isEmpty = false) (hp : 0 < val.size) (h5 : (((scanR val).1 : Int) == (val.size : Int)) = false) (h7 : (dt.toList == [104, 116, 116, 112, 58, 47, 47, 119, 119, 119, 46, 119, 51, 46, 111, 114, 103, 47, 50, 48, 48, 49, 47, 88, 77, 76, 83, 99, 104, 101, 109, 97, 35, 98, 111, 111, 108, 101, 97, 110]) = false) :
    Calls Try.prog 14 #[.slice ao bs.length bs.length, .agg #[.int .u8 k, .string val, .string dt, .string lang]] w fun e w' => Longer w bs (bs.length + val.size) e w' := by
  go_enter Try.func14, Try.ntmps14
  go_wp2_with (first | (go_at_call 19; refine (scan_any _ _ (by omega) hp).mono ?_; rintro e w' ⟨rfl, rfl⟩) | (go_at_call 20; refine (term_any k ao bs val dt lang _ (ht.below ((Below.refl _ _).alloc (Nat.le_refl _) _) (Nat.le_refl _)) hn hv hd hl).mono ?_; rintro e w' hL; obtain ⟨v1, n1, rfl, hr1, hn1⟩ := hL))
  go_ret
  exact longer_up ⟨v1, n1, rfl, hr1, hn1⟩

set_option maxHeartbeats 1000000 in
theorem sl2 (k : Int) (ao : Option Addr) (bs : List Value) (val dt lang : ByteArray) (w : World) (ht : Tight w ao bs) (hn : bs.length ≤ 262144) (hv : val.size ≤ 262144) (hd : dt.size ≤ 262144) (hl : lang.size ≤ 262144) (h3 : (k == 3) = true) (h4 : val.toList.isEmpty = false) (hp : 0 < val.size) (h5 : (((scanR val).1 : Int) == (val.size : Int)) = false) (h7 : (dt.toList == [104, 116, 116, 112, 58, 47, 47, 119, 119, 119, 46, 119, 51, 46, 111, 114, 103, 47, 50, 48, 48, 49, 47, 88, 77, 76, 83, 99, 104, 101, 109, 97, 35, 98, 111, 111, 108, 101, 97, 110]) = true) (h8 : (val.toList == [116, 114, 117, 101]) = false) (h9 : (val.toList == [102, 97, 108, 115, 101]) = false) :
    Calls Try.prog 14 #[.slice ao bs.length bs.length, .agg #[.int .u8 k, .string val, .string dt, .string lang]] w fun e w' => Longer w bs (bs.length + val.size) e w' := by
  go_enter Try.func14, Try.ntmps14
  go_wp2_with (first | (go_at_call 19; refine (scan_any _ _ (by omega) hp).mono ?_; rintro e w' ⟨rfl, rfl⟩) | (go_at_call 20; refine (term_any k ao bs val dt lang _ (ht.below ((Below.refl _ _).alloc (Nat.le_refl _) _) (Nat.le_refl _)) hn hv hd hl).mono ?_; rintro e w' hL; obtain ⟨v1, n1, rfl, hr1, hn1⟩ := hL))
  go_ret
  exact longer_up ⟨v1, n1, rfl, hr1, hn1⟩

set_option maxHeartbeats 1000000 in
theorem sl3 (k : Int) (ao : Option Addr) (bs : List Value) (val dt lang : ByteArray) (w : World) (ht : Tight w ao bs) (hn : bs.length ≤ 262144) (hv : val.size ≤ 262144) (hd : dt.size ≤ 262144) (hl : lang.size ≤ 262144) (h3 : (k == 3) = true) (h4 : val.toList.isEmpty = false) (hp : 0 < val.size) (h5 : (((scanR val).1 : Int) == (val.size : Int)) = true) (h6 : ((dtS (scanR val).2).toList == dt.toList) = false) (h7 : (dt.toList == [104, 116, 116, 112, 58, 47, 47, 119, 119, 119, 46, 119, 51, 46, 111, 114, 103, 47, 50, 48, 48, 49, 47, 88, 77, 76, 83, 99, 104, 101, 109, 97, 35, 98, 111, 111, 108, 101, 97, 110]) = false) :
    Calls Try.prog 14 #[.slice ao bs.length bs.length, .agg #[.int .u8 k, .string val, .string dt, .string lang]] w fun e w' => Longer w bs (bs.length + val.size) e w' := by
  go_enter Try.func14, Try.ntmps14
  go_wp2_with (first | (go_at_call 19; refine (scan_any _ _ (by omega) hp).mono ?_; rintro e w' ⟨rfl, rfl⟩) | (go_at_call 20; refine (term_any k ao bs val dt lang _ (ht.below ((Below.refl _ _).alloc (Nat.le_refl _) _) (Nat.le_refl _)) hn hv hd hl).mono ?_; rintro e w' hL; obtain ⟨v1, n1, rfl, hr1, hn1⟩ := hL))
  go_ret
  exact longer_up ⟨v1, n1, rfl, hr1, hn1⟩

set_option maxHeartbeats 1000000 in
theorem sl4 (k : Int) (ao : Option Addr) (bs : List Value) (val dt lang : ByteArray) (w : World) (ht : Tight w ao bs) (hn : bs.length ≤ 262144) (hv : val.size ≤ 262144) (hd : dt.size ≤ 262144) (hl : lang.size ≤ 262144) (h3 : (k == 3) = true) (h4 : val.toList.isEmpty = false) (hp : 0 < val.size) (h5 : (((scanR val).1 : Int) == (val.size : Int)) = true) (h6 : ((dtS (scanR val).2).toList == dt.toList) = false) (h7 : (dt.toList == [104, 116, 116, 112, 58, 47, 47, 119, 119, 119, 46, 119, 51, 46, 111, 114, 103, 47, 50, 48, 48, 49, 47, 88, 77, 76, 83, 99, 104, 101, 109, 97, 35, 98, 111, 111, 108, 101, 97, 110]) = true) (h8 : (val.toList == [116, 114, 117, 101]) = false) (h9 : (val.toList == [102, 97, 108, 115, 101]) = false) :
    Calls Try.prog 14 #[.slice ao bs.length bs.length, .agg #[.int .u8 k, .string val, .string dt, .string lang]] w fun e w' => Longer w bs (bs.length + val.size) e w' := by
  go_enter Try.func14, Try.ntmps14
  go_wp2_with (first | (go_at_call 19; refine (scan_any _ _ (by omega) hp).mono ?_; rintro e w' ⟨rfl, rfl⟩) | (go_at_call 20; refine (term_any k ao bs val dt lang _ (ht.below ((Below.refl _ _).alloc (Nat.le_refl _) _) (Nat.le_refl _)) hn hv hd hl).mono ?_; rintro e w' hL; obtain ⟨v1, n1, rfl, hr1, hn1⟩ := hL))
  go_ret
  exact longer_up ⟨v1, n1, rfl, hr1, hn1⟩

set_option maxHeartbeats 1000000 in
theorem sl5 (k : Int) (ao : Option Addr) (bs : List Value) (val dt lang : ByteArray) (w : World) (ht : Tight w ao bs) (hn : bs.length ≤ 262144) (hv : val.size ≤ 262144) (hd : dt.size ≤ 262144) (hl : lang.size ≤ 262144) (h3 : (k == 3) = false) :
    Calls Try.prog 14 #[.slice ao bs.length bs.length, .agg #[.int .u8 k, .string val, .string dt, .string lang]] w fun e w' => Longer w bs (bs.length + val.size) e w' := by
  go_enter Try.func14, Try.ntmps14
  go_wp2_with (first | (go_at_call 20; refine (term_any k ao bs val dt lang _ (ht.below ((Below.refl _ _).alloc (Nat.le_refl _) _) (Nat.le_refl _)) hn hv hd hl).mono ?_; rintro e w' hL; obtain ⟨v1, n1, rfl, hr1, hn1⟩ := hL))
  go_ret
  exact longer_up ⟨v1, n1, rfl, hr1, hn1⟩

set_option maxHeartbeats 1000000 in
theorem sl6 (k : Int) (ao : Option Addr) (bs : List Value) (val dt lang : ByteArray) (w : World) (ht : Tight w ao bs) (hn : bs.length ≤ 262144) (hv : val.size ≤ 262144) (hd : dt.size ≤ 262144) (hl : lang.size ≤ 262144) (h3 : (k == 3) = true) (h4 : val.toList.isEmpty = true) :
    Calls Try.prog 14 #[.slice ao bs.length bs.length, .agg #[.int .u8 k, .string val, .string dt, .string lang]] w fun e w' => Longer w bs (bs.length + val.size) e w' := by
  go_enter Try.func14, Try.ntmps14
  go_wp2_with (first | (go_at_call 20; refine (term_any k ao bs val dt lang _ (ht.below ((Below.refl _ _).alloc (Nat.le_refl _) _) (Nat.le_refl _)) hn hv hd hl).mono ?_; rintro e w' hL; obtain ⟨v1, n1, rfl, hr1, hn1⟩ := hL))
  go_ret
  exact longer_up ⟨v1, n1, rfl, hr1, hn1⟩

/-- Is the term written bare? -/
def bareB (k : Int) (val dt : ByteArray) : Bool :=
  k == 3 && !val.toList.isEmpty && ((((scanR val).1 : Int) == (val.size : Int) && ((dtS (scanR val).2).toList == dt.toList)) || ((dt.toList == [104, 116, 116, 112, 58, 47, 47, 119, 119, 119, 46, 119, 51, 46, 111, 114, 103, 47, 50, 48, 48, 49, 47, 88, 77, 76, 83, 99, 104, 101, 109, 97, 35, 98, 111, 111, 108, 101, 97, 110]) && ((val.toList == [116, 114, 117, 101]) || (val.toList == [102, 97, 108, 115, 101]))))

theorem pos_of {val : ByteArray} (h : val.toList.isEmpty = false) : 0 < val.size := by
  rw [Lib.toList_data] at h
  refine Nat.pos_of_ne_zero fun h0 => ?_
  rw [List.eq_nil_of_length_eq_zero (l := val.data.toList) (by rw [Array.length_toList]; exact h0)] at h
  cases h

theorem short_bare (k : Int) (ao : Option Addr) (bs : List Value) (val dt lang : ByteArray) (w : World) (ht : Tight w ao bs) (hn : bs.length ≤ 262144) (hv : val.size ≤ 262144) (hB : bareB k val dt = true) : Calls Try.prog 14 #[.slice ao bs.length bs.length, .agg #[.int .u8 k, .string val, .string dt, .string lang]] w fun e w' => Bare w bs val e w' := by
  unfold bareB at hB
  cases h3 : (k == 3) <;> rw [h3] at hB
  · cases hB
  cases h4 : val.toList.isEmpty <;> rw [h4] at hB
  · have hp := pos_of h4
    cases h5 : (((scanR val).1 : Int) == (val.size : Int)) <;> rw [h5] at hB
    · cases h7 : (dt.toList == [104, 116, 116, 112, 58, 47, 47, 119, 119, 119, 46, 119, 51, 46, 111, 114, 103, 47, 50, 48, 48, 49, 47, 88, 77, 76, 83, 99, 104, 101, 109, 97, 35, 98, 111, 111, 108, 101, 97, 110]) <;> rw [h7] at hB
      · cases hB
      cases h8 : (val.toList == [116, 114, 117, 101]) <;> rw [h8] at hB
      · cases h9 : (val.toList == [102, 97, 108, 115, 101]) <;> rw [h9] at hB
        · cases hB
        exact sb3 k ao bs val dt lang w ht hn hv h3 h4 hp h5 h7 h8 h9
      · exact sb2 k ao bs val dt lang w ht hn hv h3 h4 hp h5 h7 h8
    · cases h6 : ((dtS (scanR val).2).toList == dt.toList) <;> rw [h6] at hB
      · cases h7 : (dt.toList == [104, 116, 116, 112, 58, 47, 47, 119, 119, 119, 46, 119, 51, 46, 111, 114, 103, 47, 50, 48, 48, 49, 47, 88, 77, 76, 83, 99, 104, 101, 109, 97, 35, 98, 111, 111, 108, 101, 97, 110]) <;> rw [h7] at hB
        · cases hB
        cases h8 : (val.toList == [116, 114, 117, 101]) <;> rw [h8] at hB
        · cases h9 : (val.toList == [102, 97, 108, 115, 101]) <;> rw [h9] at hB
          · cases hB
          exact sb5 k ao bs val dt lang w ht hn hv h3 h4 hp h5 h6 h7 h8 h9
        · exact sb4 k ao bs val dt lang w ht hn hv h3 h4 hp h5 h6 h7 h8
      · exact sb1 k ao bs val dt lang w ht hn hv h3 h4 hp h5 h6
  · cases hB

theorem short_long (k : Int) (ao : Option Addr) (bs : List Value) (val dt lang : ByteArray) (w : World) (ht : Tight w ao bs) (hn : bs.length ≤ 262144) (hv : val.size ≤ 262144) (hd : dt.size ≤ 262144) (hl : lang.size ≤ 262144) (hB : bareB k val dt = false) : Calls Try.prog 14 #[.slice ao bs.length bs.length, .agg #[.int .u8 k, .string val, .string dt, .string lang]] w fun e w' => Longer w bs (bs.length + val.size) e w' := by
  unfold bareB at hB
  cases h3 : (k == 3) <;> rw [h3] at hB
  · exact sl5 k ao bs val dt lang w ht hn hv hd hl h3
  cases h4 : val.toList.isEmpty <;> rw [h4] at hB
  · have hp := pos_of h4
    cases h5 : (((scanR val).1 : Int) == (val.size : Int)) <;> rw [h5] at hB
    · cases h7 : (dt.toList == [104, 116, 116, 112, 58, 47, 47, 119, 119, 119, 46, 119, 51, 46, 111, 114, 103, 47, 50, 48, 48, 49, 47, 88, 77, 76, 83, 99, 104, 101, 109, 97, 35, 98, 111, 111, 108, 101, 97, 110]) <;> rw [h7] at hB
      · exact sl1 k ao bs val dt lang w ht hn hv hd hl h3 h4 hp h5 h7
      cases h8 : (val.toList == [116, 114, 117, 101]) <;> rw [h8] at hB
      · cases h9 : (val.toList == [102, 97, 108, 115, 101]) <;> rw [h9] at hB
        · exact sl2 k ao bs val dt lang w ht hn hv hd hl h3 h4 hp h5 h7 h8 h9
        cases hB
      · cases hB
    · cases h6 : ((dtS (scanR val).2).toList == dt.toList) <;> rw [h6] at hB
      · cases h7 : (dt.toList == [104, 116, 116, 112, 58, 47, 47, 119, 119, 119, 46, 119, 51, 46, 111, 114, 103, 47, 50, 48, 48, 49, 47, 88, 77, 76, 83, 99, 104, 101, 109, 97, 35, 98, 111, 111, 108, 101, 97, 110]) <;> rw [h7] at hB
        · exact sl3 k ao bs val dt lang w ht hn hv hd hl h3 h4 hp h5 h6 h7
        cases h8 : (val.toList == [116, 114, 117, 101]) <;> rw [h8] at hB
        · cases h9 : (val.toList == [102, 97, 108, 115, 101]) <;> rw [h9] at hB
          · exact sl4 k ao bs val dt lang w ht hn hv hd hl h3 h4 hp h5 h6 h7 h8 h9
          cases hB
        · cases hB
      · cases hB
  · exact sl6 k ao bs val dt lang w ht hn hv hd hl h3 h4
end Go.Proofs.Qxb6609053a
