/-
  FnAppendShortTermBareUnderOneKindAtMost (6), the form false (HOW MADE: one text at three places, written out by a small program of the prover's).
-/
import Derived.Test.Qxb6609053aLaw
namespace Go.Proofs.Qxb6609053a
open Go.RowKit

set_option maxHeartbeats 8000000 in
theorem law_false (a : Option Addr) (cap : Nat) (xs : List Int) (val lang : ByteArray) (w : World) (h : Rd w a xs) (hn : a = none → xs = [] ∧ cap = 0) (hx : xs.length ≤ 262144) (hv : val.size ≤ 262144) (hl : lang.size ≤ 65536)
    (h8 : (val.toList == [116, 114, 117, 101]) = false) (h9 : (val.toList == [102, 97, 108, 115, 101]) = true) :
    Calls Try.prog 6 #[.slice a xs.length cap, .string val, .string lang] w fun e w' => e = .returned (.bool true) ∧ Below w.heap.size w w' := by
  go_enter Try.func6, Try.ntmps6
  go_wp2_with fail
  refine (bytes_any _ _ _ _ _ _ (by omega) (by omega) (by omega)).mono ?_
  rintro e w' ⟨hr, rfl⟩
  rcases hr with rfl | rfl
  · go_wp2_with fail
    refine (clone_any a cap xs _ h hn (by omega)).mono ?_
    rintro e w1 ⟨ao, rfl, ht1, hb1⟩
    go_wp2_with fail
    refine (clone_any ao xs.length xs _ ht1.rd ht1.none_nil (by omega)).mono ?_
    rintro e w2 ⟨ao2, rfl, ht2, hb2⟩
    go_wp2_with (first | (at_builtin; refine list_append rfl (.tmp 33) (.tmp 34) 24 9 rfl (v1 := .slice ao2 xs.length xs.length) (v2 := .string val) rfl rfl (run_bare _ ao2 xs _ val ht2 (by omega)) ?_; intro v3 w3 hR3; obtain ⟨⟨ab, cb, rfl, hrd⟩, hb3⟩ := hR3) | (go_at_call 12; refine (num_any _ _ (by omega)).mono ?_; rintro e W ⟨rfl, rfl⟩))
    obtain ⟨K, hK⟩ : ∃ K, kind val = K := ⟨_, rfl⟩
    obtain ⟨T, hT⟩ : ∃ T, hitAt val = T := ⟨_, rfl⟩
    have hK3 := kind_le val
    rw [hK] at hK3 ⊢
    have hbv : isB val = true := by unfold isB; simp only [h8, h9]; rfl
    have hTK : K = 0 ∧ T = 3 := by
      have h0 := isB_kind hbv
      refine ⟨hK.symm.trans h0, ?_⟩
      rw [← hT]; unfold hitAt; rw [if_pos h0, if_pos hbv]
    have HTK : Hid _ := hTK
    have HT : Hid (hitAt val = T) := hT
    have hbW := hb2.trans (hb3.mono hb2.size)
    have htW := ht1.below hbW (Nat.le_refl _)
    have hbT := hb1.trans (hbW.mono hb1.size)
    clear hK hT hTK hbv ht1 ht2 hb1 hb2 hb3 hbW hn h
    go_loopw [10, 11] (fun s10 s11 wr => ∃ k c : Nat, k ≤ 5 ∧ c ≤ 1 ∧ s11 = .int .i64 k ∧ s10 = .int .i64 c ∧ Hid (cnt T k 0 = c) ∧ Below W.heap.size W wr) (fun _ s11 _ => 5 - (intOf s11).toNat)
    case atStart => exact ⟨0, 0, by omega, by omega, rfl, rfl, by show cnt T 0 0 = 0; unfold cnt; rw [if_neg (by omega)], Below.refl _ _⟩
    case round =>
      obtain ⟨k, c, hk5, hc1, rfl, rfl, HC, hbel⟩ := hrel
      by_cases hk : k < 5
      · obtain ⟨wo, rfl⟩ : ∃ wo : World, wo = wr := ⟨_, rfl⟩
        have hk4 : (k : Int) ≤ 4 := by omega
        go_wp2
        go_loopw [10, 12] (fun s10 s12 wi => ∃ d c : Nat, d ≤ 5 ∧ c ≤ 1 ∧ s12 = .int .i64 d ∧ s10 = .int .i64 c ∧ Hid (cnt T k d = c) ∧ Below W.heap.size W wi) (fun _ s12 _ => 5 - (intOf s12).toNat)
        case atStart => exact ⟨0, c, by omega, hc1, rfl, rfl, HC, hbel⟩
        case round =>
          clear HC hbel hc1
          obtain ⟨d, c, hd5, hc1, rfl, rfl, HC, hbel⟩ := hrel
          have ht := htW.below hbel (Nat.le_refl _)
          have hrb := hrd.below hbel (Nat.le_refl _)
          by_cases hd : d < 5
          · by_cases hh : k = 3 ∧ d = T
            · have HB : Hid (bareB (k : Int) val (dtS (d + 1)) = true) := by
                show _ = _; rw [bare_hit k d (by omega), HT.out, hh.1, hh.2]; simp
              have hk3 : k = 3 := hh.1
              have HD : Hid (d = T) := hh.2
              have hT4 : T ≤ 4 := by omega
              have f1 : (dtS K).toList.isEmpty = true := by rw [dt_empty K hK3, decide_eq_true_eq]; exact HTK.out.1
              have f2 : ((dtS (d + 1)).toList == [104, 116, 116, 112, 58, 47, 47, 119, 119, 119, 46, 119, 51, 46, 111, 114, 103, 47, 50, 48, 48, 49, 47, 88, 77, 76, 83, 99, 104, 101, 109, 97, 35, 98, 111, 111, 108, 101, 97, 110]) = true := by rw [dt_bool (d + 1) (by omega) (by omega), decide_eq_true_eq]; have := HTK.out.2; omega
              have hk31 : 3 ≤ k := by omega
              have hk32 : k ≤ 3 := by omega
              have HK3 : Hid (k = 3) := hk3
              have HR1 : Hid (c + 1 ≤ 1 ∧ cnt T k (d + 1) = c + 1) := by
                have hcc := HC.out
                have hd' := HD.out
                subst hd' hk3
                have hstep := cnt_hit d (by omega)
                have := cnt_le d 3 (d + 1)
                exact ⟨by omega, by omega⟩
              clear hh hk3 hT4 HD
              go_wp2_with fail
              refine (dt_any d (by omega) _).mono ?_
              rintro e wx ⟨rfl, rfl⟩
              go_wp2_with fail
              refine (short_hit (k : Int) ao xs val (dtS (d + 1)) lang _ ht hx hv HB.out).mono ?_
              rintro e w4 ⟨g, cap4, rfl, hr1, hr2, hb4⟩
              have ht4 := ht.below hb4 (Nat.le_refl _)
              have hrb4 := hrb.below hb4 (Nat.le_refl _)
              go_wp2_with fail
              refine (pre_yes _ _ _ _ _ xs _ hr2 ht4.rd (by omega) (by omega)).mono ?_
              rintro e w5 ⟨rfl, q5, rfl⟩
              go_wp2_with fail
              refine (eq_yes _ _ (xs.length + val.size) _ _ (xs ++ valN val) (by rw [List.length_append, valN_length]) _ (by exact hr1) (by exact hrb4) (by omega)).mono ?_
              rintro e w6 ⟨rfl, q6, rfl⟩
              go_wp2
              go_roundw
              case rel =>
                exact ⟨d + 1, c + 1, by omega, HR1.out.1, by go_num, by go_num, HR1.out.2, below_drewN (hbel.trans (hb4.mono hbel.size)) _⟩
              case measure => simp [intOf]; omega
            · have HB : Hid (bareB (k : Int) val (dtS (d + 1)) = false) := by
                show _ = _; rw [bare_hit k d (by omega), HT.out]
                rw [Bool.eq_false_iff]; intro hq; simp only [Bool.and_eq_true, decide_eq_true_eq] at hq; exact hh hq
              have HM : Hid (cnt T k (d + 1) = cnt T k d) := cnt_miss T k d hh
              clear hh
              go_wp2_with fail
              refine (dt_any d (by omega) _).mono ?_
              rintro e wx ⟨rfl, rfl⟩
              go_wp2_with fail
              refine (short_miss (k : Int) ao xs val (dtS (d + 1)) lang _ ht hx hv (dt_size _) (by omega) HB.out).mono ?_
              rintro e w4 ⟨g, n4, cap4, rfl, hn4, hr2, hb4⟩
              have ht4 := ht.below hb4 (Nat.le_refl _)
              go_wp2_with fail
              refine (pre_yes _ _ _ _ _ xs _ hr2 ht4.rd (by omega) (by omega)).mono ?_
              rintro e w5 ⟨rfl, q5, rfl⟩
              go_wp2_with fail
              refine (eq_no _ _ _ _ _ _ _ hn4).mono ?_
              rintro e w6 ⟨rfl, rfl⟩
              go_wp2
              go_roundw
              case rel =>
                exact ⟨d + 1, c, by omega, hc1, by go_num, rfl, HM.out.trans HC.out, below_drewN (hbel.trans (hb4.mono hbel.size)) _⟩
              case measure => simp [intOf]; omega
          · obtain rfl : d = 5 := by omega
            go_wp2
            go_roundw
            case rel => exact ⟨k + 1, c, by omega, hc1, by go_num, rfl, (cnt_row T k).symm.trans HC.out, hbel⟩
            case measure => simp [intOf]; omega
      · obtain rfl : k = 5 := by omega
        have f1 : (dtS K).toList.isEmpty = true := by rw [dt_empty K hK3, decide_eq_true_eq]; exact HTK.out.1
        have hc0 : c = 1 := by
          have := HC.out; rw [cnt_end, HTK.out.2] at this; simpa using this.symm
        subst hc0
        go_wp2
        go_ret
        exact ⟨rfl, hbT.trans (hbel.mono hbT.size)⟩
  · go_wp2
    go_ret
    exact ⟨rfl, Below.refl _ _⟩
end Go.Proofs.Qxb6609053a
