/-
  scanNumber (19), a minus (HOW MADE: one text at three places, written out by a small program of the prover's).
-/
import Derived.Test.Qxb6609053aScan2
namespace Go.Proofs.Qxb6609053a
open Go.RowKit

set_option maxHeartbeats 4000000 in
theorem scan_minus (s : ByteArray) (w : World) (hs : s.size ≤ 1048576) (hp : 0 < s.size) (g1 : ((s[0].toNat : Int) == 43) = false) (g2 : ((s[0].toNat : Int) == 45) = true) (h0 : Hid (Pl.sgn (txt s) = 1)) :
    Calls Try.prog 19 #[.string s] w fun e w' => e = .returned (.tuple #[.int .i64 ((scanR s).1 : Int), .string (dtS (scanR s).2)]) ∧ w' = w := by
  obtain ⟨W, hW⟩ : ∃ W, Pl.digits ((txt s).drop 1) = W := ⟨_, rfl⟩
  have hWl := digits_le ((txt s).drop 1)
  rw [hW, List.length_drop, txt_length] at hWl
  have HW : Hid (Pl.digits ((txt s).drop 1) = W) := hW
  clear hW
  obtain ⟨F, hF⟩ : ∃ F, Pl.digits (((txt s).drop 1).drop (W + 1)) = F := ⟨_, rfl⟩
  obtain ⟨E1, hE1⟩ : ∃ E, Pl.expo (((txt s).drop 1).drop (W + 1)) = E := ⟨_, rfl⟩
  obtain ⟨E2, hE2⟩ : ∃ E, Pl.expo (((txt s).drop 1).drop W) = E := ⟨_, rfl⟩
  obtain ⟨E3, hE3⟩ : ∃ E, Pl.expo (((txt s).drop 1).drop (W + 1 + F)) = E := ⟨_, rfl⟩
  have hFl := digits_le (((txt s).drop 1).drop (W + 1))
  have hE1l := expo_le (((txt s).drop 1).drop (W + 1))
  have hE2l := expo_le (((txt s).drop 1).drop W)
  have hE3l := expo_le (((txt s).drop 1).drop (W + 1 + F))
  rw [hF, List.length_drop, List.length_drop, txt_length] at hFl
  rw [hE1, List.length_drop, List.length_drop, txt_length] at hE1l
  rw [hE2, List.length_drop, List.length_drop, txt_length] at hE2l
  rw [hE3, List.length_drop, List.length_drop, txt_length] at hE3l
  have HF : Hid (Pl.digits (((txt s).drop 1).drop (W + 1)) = F) := hF
  have HE1 : Hid (Pl.expo (((txt s).drop 1).drop (W + 1)) = E1) := hE1
  have HE2 : Hid (Pl.expo (((txt s).drop 1).drop W) = E2) := hE2
  have HE3 : Hid (Pl.expo (((txt s).drop 1).drop (W + 1 + F)) = E3) := hE3
  clear hF hE1 hE2 hE3
  by_cases hlt : 1 + W < s.size
  · cases hd : ((s[1 + W].toNat : Int) == 46)
    · have HDT : Hid (Pl.dotted ((txt s).drop 1) = false) := dt_none HW.out (by rw [List.getElem?_drop]; rw [txt_get s _ hlt]; intro h; exact byte46_ne hd (Option.some.inj h))
      by_cases hW0 : 0 < W
      · by_cases hE : 0 < E2
        · have HR : Hid (scanR s = (1 + (W + E2), 3)) := scanR_of h0.out (sc_plain_e HW.out hW0 HDT.out HE2.out hE) (by decide)
          go_enter Try.func19, Try.ntmps19
          go_wp2_with fail
          refine (digits_c _ W _ (by first | omega | (rw [ByteArray.size_extract]; omega)) (by show Pl.digits _ = _; rw [txt_extract]; exact HW.out)).mono ?_; rintro e w' ⟨rfl, rfl⟩
          go_wp2_with fail
          refine (exponent_c _ E2 _ (by first | omega | (rw [ByteArray.size_extract]; omega)) (by show _ = _; rw [txt_extract]; have hh := HE2.out; rw [List.drop_drop] at hh; first | exact hh | (simp only [Nat.add_assoc] at hh ⊢; exact hh))).mono ?_; rintro e w' ⟨rfl, rfl⟩
          go_wp2
          go_ret2
          exact ⟨ret_scan HR.out (by omega) rfl, rfl⟩
        · have HR : Hid (scanR s = (1 + W, 1)) := scanR_of h0.out (sc_plain HW.out hW0 HDT.out (by rw [HE2.out]; omega)) (by decide)
          go_enter Try.func19, Try.ntmps19
          go_wp2_with fail
          refine (digits_c _ W _ (by first | omega | (rw [ByteArray.size_extract]; omega)) (by show Pl.digits _ = _; rw [txt_extract]; exact HW.out)).mono ?_; rintro e w' ⟨rfl, rfl⟩
          go_wp2_with fail
          refine (exponent_c _ E2 _ (by first | omega | (rw [ByteArray.size_extract]; omega)) (by show _ = _; rw [txt_extract]; have hh := HE2.out; rw [List.drop_drop] at hh; first | exact hh | (simp only [Nat.add_assoc] at hh ⊢; exact hh))).mono ?_; rintro e w' ⟨rfl, rfl⟩
          go_wp2
          go_ret2
          exact ⟨ret_scan HR.out (by omega) rfl, rfl⟩
      · have HR : Hid (scanR s = (0, 0)) := scanR_none h0.out (sc_zero (by rw [HW.out]; omega) HDT.out)
        go_enter Try.func19, Try.ntmps19
        go_wp2_with fail
        refine (digits_c _ W _ (by first | omega | (rw [ByteArray.size_extract]; omega)) (by show Pl.digits _ = _; rw [txt_extract]; exact HW.out)).mono ?_; rintro e w' ⟨rfl, rfl⟩
        go_wp2
        go_ret2
        exact ⟨ret_scan HR.out (by omega) rfl, rfl⟩
    · have hgt : ((txt s).drop 1)[W]? = some 46 := by rw [List.getElem?_drop]; rw [txt_get s _ hlt, byte46 hd]
      have HGT : Hid (((txt s).drop 1)[W]? = some 46) := hgt
      clear hgt
      by_cases hF0 : 0 < F
      · have HDT : Hid (Pl.dotted ((txt s).drop 1) = true) := dt_yes HW.out HGT.out HF.out hF0
        by_cases hE : 0 < E3
        · have HR : Hid (scanR s = (1 + (W + 1 + F + E3), 3)) := scanR_of h0.out (sc_dot_e HW.out HF.out HDT.out HE3.out hE) (by decide)
          go_enter Try.func19, Try.ntmps19
          go_wp2_with fail
          refine (digits_c _ W _ (by first | omega | (rw [ByteArray.size_extract]; omega)) (by show Pl.digits _ = _; rw [txt_extract]; exact HW.out)).mono ?_; rintro e w' ⟨rfl, rfl⟩
          go_wp2_with fail
          refine (digits_c _ F _ (by first | omega | (rw [ByteArray.size_extract]; omega)) (by show _ = _; rw [txt_extract]; have hh := HF.out; rw [List.drop_drop] at hh; first | exact hh | (simp only [Nat.add_assoc] at hh ⊢; exact hh))).mono ?_; rintro e w' ⟨rfl, rfl⟩
          go_wp2_with fail
          refine (exponent_c _ E3 _ (by first | omega | (rw [ByteArray.size_extract]; omega)) (by show _ = _; rw [txt_extract]; have hh := HE3.out; rw [List.drop_drop] at hh; first | exact hh | (simp only [Nat.add_assoc] at hh ⊢; exact hh))).mono ?_; rintro e w' ⟨rfl, rfl⟩
          go_wp2
          go_ret2
          exact ⟨ret_scan HR.out (by omega) rfl, rfl⟩
        · have HR : Hid (scanR s = (1 + (W + 1 + F), 2)) := scanR_of h0.out (sc_dot HW.out HF.out HDT.out (by rw [HE3.out]; omega)) (by decide)
          go_enter Try.func19, Try.ntmps19
          go_wp2_with fail
          refine (digits_c _ W _ (by first | omega | (rw [ByteArray.size_extract]; omega)) (by show Pl.digits _ = _; rw [txt_extract]; exact HW.out)).mono ?_; rintro e w' ⟨rfl, rfl⟩
          go_wp2_with fail
          refine (digits_c _ F _ (by first | omega | (rw [ByteArray.size_extract]; omega)) (by show _ = _; rw [txt_extract]; have hh := HF.out; rw [List.drop_drop] at hh; first | exact hh | (simp only [Nat.add_assoc] at hh ⊢; exact hh))).mono ?_; rintro e w' ⟨rfl, rfl⟩
          go_wp2_with fail
          refine (exponent_c _ E3 _ (by first | omega | (rw [ByteArray.size_extract]; omega)) (by show _ = _; rw [txt_extract]; have hh := HE3.out; rw [List.drop_drop] at hh; first | exact hh | (simp only [Nat.add_assoc] at hh ⊢; exact hh))).mono ?_; rintro e w' ⟨rfl, rfl⟩
          go_wp2
          go_ret2
          exact ⟨ret_scan HR.out (by omega) rfl, rfl⟩
      · have hFe : F = 0 := by omega
        have h31 : E3 = E1 := by rw [← HE3.out, ← HE1.out, hFe, Nat.add_zero]
        have HF0 : Hid (Pl.digits (((txt s).drop 1).drop (W + 1)) = 0) := by show _ = _; rw [HF.out]; exact hFe
        have HFe : Hid (F = 0) := hFe
        have H31 : Hid (E3 = E1) := h31
        have hE31 : E1 ≤ E3 := by omega
        have hE13 : E3 ≤ E1 := by omega
        clear hFe h31
        by_cases hW0 : 0 < W
        · by_cases hE : 0 < E1
          · have HDT : Hid (Pl.dotted ((txt s).drop 1) = true) := dt_exp HW.out HGT.out hW0 HE1.out hE
            have HR : Hid (scanR s = (1 + (W + 1 + F + E3), 3)) := scanR_of h0.out (sc_dot_e HW.out HF.out HDT.out HE3.out (by omega)) (by decide)
            go_enter Try.func19, Try.ntmps19
            go_wp2_with fail
            refine (digits_c _ W _ (by first | omega | (rw [ByteArray.size_extract]; omega)) (by show Pl.digits _ = _; rw [txt_extract]; exact HW.out)).mono ?_; rintro e w' ⟨rfl, rfl⟩
            go_wp2_with fail
            refine (digits_c _ F _ (by first | omega | (rw [ByteArray.size_extract]; omega)) (by show _ = _; rw [txt_extract]; have hh := HF.out; rw [List.drop_drop] at hh; first | exact hh | (simp only [Nat.add_assoc] at hh ⊢; exact hh))).mono ?_; rintro e w' ⟨rfl, rfl⟩
            go_wp2_with fail
            refine (exponent_c _ E1 _ (by first | omega | (rw [ByteArray.size_extract]; omega)) (by show _ = _; rw [txt_extract]; have hh := HE1.out; rw [List.drop_drop] at hh; first | exact hh | (simp only [Nat.add_assoc] at hh ⊢; exact hh))).mono ?_; rintro e w' ⟨rfl, rfl⟩
            go_wp2_with fail
            refine (exponent_c _ E3 _ (by first | omega | (rw [ByteArray.size_extract]; omega)) (by show _ = _; rw [txt_extract]; have hh := HE3.out; rw [List.drop_drop] at hh; first | exact hh | (simp only [Nat.add_assoc] at hh ⊢; exact hh))).mono ?_; rintro e w' ⟨rfl, rfl⟩
            go_wp2
            go_ret2
            exact ⟨ret_scan HR.out (by omega) rfl, rfl⟩
          · have HDT : Hid (Pl.dotted ((txt s).drop 1) = false) := dt_no HW.out HF0.out HE1.out (.inr (by omega))
            by_cases hE' : 0 < E2
            · have HR : Hid (scanR s = (1 + (W + E2), 3)) := scanR_of h0.out (sc_plain_e HW.out hW0 HDT.out HE2.out hE') (by decide)
              go_enter Try.func19, Try.ntmps19
              go_wp2_with fail
              refine (digits_c _ W _ (by first | omega | (rw [ByteArray.size_extract]; omega)) (by show Pl.digits _ = _; rw [txt_extract]; exact HW.out)).mono ?_; rintro e w' ⟨rfl, rfl⟩
              go_wp2_with fail
              refine (digits_c _ F _ (by first | omega | (rw [ByteArray.size_extract]; omega)) (by show _ = _; rw [txt_extract]; have hh := HF.out; rw [List.drop_drop] at hh; first | exact hh | (simp only [Nat.add_assoc] at hh ⊢; exact hh))).mono ?_; rintro e w' ⟨rfl, rfl⟩
              go_wp2_with fail
              refine (exponent_c _ E1 _ (by first | omega | (rw [ByteArray.size_extract]; omega)) (by show _ = _; rw [txt_extract]; have hh := HE1.out; rw [List.drop_drop] at hh; first | exact hh | (simp only [Nat.add_assoc] at hh ⊢; exact hh))).mono ?_; rintro e w' ⟨rfl, rfl⟩
              go_wp2_with fail
              refine (exponent_c _ E2 _ (by first | omega | (rw [ByteArray.size_extract]; omega)) (by show _ = _; rw [txt_extract]; have hh := HE2.out; rw [List.drop_drop] at hh; first | exact hh | (simp only [Nat.add_assoc] at hh ⊢; exact hh))).mono ?_; rintro e w' ⟨rfl, rfl⟩
              go_wp2
              go_ret2
              exact ⟨ret_scan HR.out (by omega) rfl, rfl⟩
            · have HR : Hid (scanR s = (1 + W, 1)) := scanR_of h0.out (sc_plain HW.out hW0 HDT.out (by rw [HE2.out]; omega)) (by decide)
              go_enter Try.func19, Try.ntmps19
              go_wp2_with fail
              refine (digits_c _ W _ (by first | omega | (rw [ByteArray.size_extract]; omega)) (by show Pl.digits _ = _; rw [txt_extract]; exact HW.out)).mono ?_; rintro e w' ⟨rfl, rfl⟩
              go_wp2_with fail
              refine (digits_c _ F _ (by first | omega | (rw [ByteArray.size_extract]; omega)) (by show _ = _; rw [txt_extract]; have hh := HF.out; rw [List.drop_drop] at hh; first | exact hh | (simp only [Nat.add_assoc] at hh ⊢; exact hh))).mono ?_; rintro e w' ⟨rfl, rfl⟩
              go_wp2_with fail
              refine (exponent_c _ E1 _ (by first | omega | (rw [ByteArray.size_extract]; omega)) (by show _ = _; rw [txt_extract]; have hh := HE1.out; rw [List.drop_drop] at hh; first | exact hh | (simp only [Nat.add_assoc] at hh ⊢; exact hh))).mono ?_; rintro e w' ⟨rfl, rfl⟩
              go_wp2_with fail
              refine (exponent_c _ E2 _ (by first | omega | (rw [ByteArray.size_extract]; omega)) (by show _ = _; rw [txt_extract]; have hh := HE2.out; rw [List.drop_drop] at hh; first | exact hh | (simp only [Nat.add_assoc] at hh ⊢; exact hh))).mono ?_; rintro e w' ⟨rfl, rfl⟩
              go_wp2
              go_ret2
              exact ⟨ret_scan HR.out (by omega) rfl, rfl⟩
        · have HDT : Hid (Pl.dotted ((txt s).drop 1) = false) := dt_no HW.out HF0.out HE1.out (.inl (by omega))
          have HR : Hid (scanR s = (0, 0)) := scanR_none h0.out (sc_zero (by rw [HW.out]; omega) HDT.out)
          go_enter Try.func19, Try.ntmps19
          go_wp2_with fail
          refine (digits_c _ W _ (by first | omega | (rw [ByteArray.size_extract]; omega)) (by show Pl.digits _ = _; rw [txt_extract]; exact HW.out)).mono ?_; rintro e w' ⟨rfl, rfl⟩
          go_wp2_with fail
          refine (digits_c _ F _ (by first | omega | (rw [ByteArray.size_extract]; omega)) (by show _ = _; rw [txt_extract]; have hh := HF.out; rw [List.drop_drop] at hh; first | exact hh | (simp only [Nat.add_assoc] at hh ⊢; exact hh))).mono ?_; rintro e w' ⟨rfl, rfl⟩
          go_wp2
          go_ret2
          exact ⟨ret_scan HR.out (by omega) rfl, rfl⟩
  · have HDT : Hid (Pl.dotted ((txt s).drop 1) = false) := dt_none HW.out (by rw [List.getElem?_drop, List.getElem?_eq_none (by rw [txt_length]; omega)]; simp)
    by_cases hW0 : 0 < W
    · have hE : ¬ 0 < E2 := by omega
      have HR : Hid (scanR s = (1 + W, 1)) := scanR_of h0.out (sc_plain HW.out hW0 HDT.out (by rw [HE2.out]; omega)) (by decide)
      go_enter Try.func19, Try.ntmps19
      go_wp2_with fail
      refine (digits_c _ W _ (by first | omega | (rw [ByteArray.size_extract]; omega)) (by show Pl.digits _ = _; rw [txt_extract]; exact HW.out)).mono ?_; rintro e w' ⟨rfl, rfl⟩
      go_wp2_with fail
      refine (exponent_c _ E2 _ (by first | omega | (rw [ByteArray.size_extract]; omega)) (by show _ = _; rw [txt_extract]; have hh := HE2.out; rw [List.drop_drop] at hh; first | exact hh | (simp only [Nat.add_assoc] at hh ⊢; exact hh))).mono ?_; rintro e w' ⟨rfl, rfl⟩
      go_wp2
      go_ret2
      exact ⟨ret_scan HR.out (by omega) rfl, rfl⟩
    · have HR : Hid (scanR s = (0, 0)) := scanR_none h0.out (sc_zero (by rw [HW.out]; omega) HDT.out)
      go_enter Try.func19, Try.ntmps19
      go_wp2_with fail
      refine (digits_c _ W _ (by first | omega | (rw [ByteArray.size_extract]; omega)) (by show Pl.digits _ = _; rw [txt_extract]; exact HW.out)).mono ?_; rintro e w' ⟨rfl, rfl⟩
      go_wp2
      go_ret2
      exact ⟨ret_scan HR.out (by omega) rfl, rfl⟩

end Go.Proofs.Qxb6609053a
