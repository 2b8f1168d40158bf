/-
  FnReadLineMatchesLineModel (3).
-/
import Derived.Test.Qxb6612819aDoorGl
import Derived.Test.Qxb6612819aDoorPlain
namespace Go.Proofs.Qxb6612819aDoor
open Go.RowKit

theorem law_big (a : Option Addr) (n cap : Nat) (W : World) (h1 : n ≤ 9223372036854775807) (h : ¬ n ≤ 1048576) :
    Calls Tryd.prog 3 #[.slice a n cap] W fun e W' => e = .returned (.bool true) ∧ Below W.heap.size W W' := by
  go_enter Tryd.func3, Tryd.ntmps3
  go_wp2_with ((go_at_call 6; refine Calls.mono (bytes_any a n cap _ h1) ?_; rw [decide_eq_false h]; rintro _ _ ⟨rfl, rfl⟩))
  go_ret
  exact ⟨rfl, Below.refl _ _⟩

/-- At the head of the law's loop. -/
def Outer (C B U R : Nat) (sa : Option Addr) (ds : List Int) (W3 : World) (gk : Nat) (s : Value) (wr : World) : Prop :=
  ∃ st k r, s = .int .i64 (st : Nat) ∧ ds.length + 1 - st ≤ gk ∧ st ≤ ds.length + 1 ∧ Rd wr C B U R sa ds (if st < ds.length then st else ds.length) k r .nilIface ∧ Keep (Three B U R) W3 wr

theorem Outer.next {C B U R : Nat} {sa : Option Addr} {ds : List Int} {W3 wr w' : World} {st L k r : Nat} (hL : st + L ≤ ds.length) (hk0 : Keep (Three B U R) W3 wr) (hr : Rd w' C B U R sa ds (nextPos ds st L) k r .nilIface) (hk : Keep (Three B U R) wr w') (q : Nat) (s : Value) (hs : s = .int .i64 ((st + L + 1 : Nat) : Int)) :
    Outer C B U R sa ds W3 (ds.length + 1 - (st + L + 1)) s (w'.drewN q) := by
  refine ⟨st + L + 1, k, r, hs, Nat.le_refl _, by omega, ?_, (hk0.trans hk).drewN q⟩
  have e : (if st + L + 1 < ds.length then st + L + 1 else ds.length) = nextPos ds st L := by
    unfold nextPos
    by_cases h1 : st + L < ds.length
    · rw [if_pos h1]; split <;> omega
    · rw [if_neg h1, if_neg (by omega)]; omega
  rw [e]
  exact Rd.drewN hr q

theorem want_take (xs : List Int) (C st L : Nat) : ∃ m, m ≤ L ∧ want xs C st L = (xs.drop st).take m := by
  unfold want
  by_cases h : C ≤ L
  · exact ⟨C, h, if_pos h⟩
  · exact ⟨trimLen xs st L 13, trimLen_le _ _ _ _, if_neg h⟩
theorem want_length (xs : List Int) (C st L : Nat) (hL : st + L ≤ xs.length) : (want xs C st L).length = if C ≤ L then C else trimLen xs st L 13 := by
  have := trimLen_le xs st L 13
  unfold want
  by_cases h : C ≤ L
  · rw [if_pos h, if_pos h, List.length_take, List.length_drop]; omega
  · rw [if_neg h, if_neg h, List.length_take, List.length_drop]; omega
theorem want_bs {w : World} {D st L : Nat} {xs : List Int} (C : Nat) (hlt : st < xs.length) (hL : st + L ≤ xs.length) (hd : ∀ j, j < xs.length → w.cell? ⟨D, j, none⟩ = some (.int .u8 (xs.getD j 0))) : Bs w (some ⟨D, st, none⟩) (want xs C st L) := by
  obtain ⟨m, hm, e⟩ := want_take xs C st L
  rw [e]
  refine .inr ⟨D, st, rfl, lt_of_cell (hd st hlt), fun j hj => ?_⟩
  rw [List.length_take, List.length_drop] at hj
  rw [hd (st + j) (by omega), getD_take (by omega), getD_drop]

set_option maxRecDepth 20000 in
set_option maxHeartbeats 4000000 in
theorem law_three (C : Nat) (hC : C = 10000) (ea fa : Addr) (a : Option Addr) (cap : Nat) (xs : List Int) (W : World) (g : Gl W ea fa) (hbs : Bytes xs) (h : Bs W a xs) (hn : a = none → xs = [] ∧ cap = 0) (hx : xs.length ≤ 1048576) :
    Calls Tryd.prog 3 #[.slice a xs.length cap] W fun e W' => e = .returned (.bool true) ∧ Below W.heap.size W W' := by
  have HG : Hid (Gl W ea fa) := g
  go_enter Tryd.func3, Tryd.ntmps3
  go_wp2_with ((go_at_call 6; refine Calls.mono (bytes_any a xs.length cap _ (by omega)) ?_; rw [decide_eq_true hx]; rintro _ w2 ⟨rfl, hw⟩; rw [hw]; clear hw w2))
  go_wp2_with ((go_at_call 7; (with_reducible show Calls Tryd.prog 7 #[.slice a xs.length cap] W _); refine Calls.mono (clone_any a cap xs W h hn hx) ?_; rintro _ W1 ⟨r1, rfl, hb1, hr1⟩; have HB1 : Hid _ := hb1; have HR1 : Hid _ := hr1; clear hb1 hr1))
  go_wp2_with ((go_at_call 7; (with_reducible show Calls Tryd.prog 7 #[.slice r1 xs.length xs.length] W1 _); refine Calls.mono (clone_any r1 xs.length xs W1 (CloneAt.bs HR1.out) (CloneAt.none HR1.out) hx) ?_; rintro _ W2 ⟨r2, rfl, hb2, hr2⟩; have HB2 : Hid _ := hb2; have HR2 : Hid _ := hr2; clear hb2 hr2))
  go_wp2_with ((go_at_call 8; refine Calls.mono (new_reader C hC r2 xs W2) ?_; rintro _ W3 ⟨B, U, R, rfl, h3, hb3, hrd⟩; have H3 : Hid _ := h3; have HB3 : Hid _ := hb3; have HRD : Hid _ := hrd; clear h3 hb3 hrd))
  have HS1 : Hid (W.heap.size ≤ W1.heap.size ∧ W1.heap.size ≤ W2.heap.size) := ⟨HB1.out.size, HB2.out.size⟩
  have HB03 : Hid (Below W.heap.size W W3) := below_trans HB1.out (below_trans HB2.out HB3.out HS1.out.2) HS1.out.1
  have HGR : Hid (∀ w', Keep (Three B U R) W3 w' → Env w' B U R r2 xs ea fa ∧ Errs w' B U R ea fa ∧ Below W.heap.size W w') :=
    ground HG.out HB03.out (m := W2.heap.size) (by have := HS1.out; omega) (fun k hk => (H3.out k hk).1) (by omega) (by
      rcases HR2.out with h1 | ⟨D, h1, _, h3, h4⟩
      · exact .inl h1
      · exact .inr ⟨D, h1, h3, fun j hj => (HB3.out.cell (p := ⟨D, j, none⟩) h3).trans (h4 j hj)⟩)
  have HDA : Hid (∀ w' D, r1 = some ⟨D, 0, none⟩ → D < W1.heap.size → (∀ j, j < xs.length → W1.cell? ⟨D, j, none⟩ = some (.int .u8 (xs.getD j 0))) → Keep (Three B U R) W3 w' → ∀ j, j < xs.length → w'.cell? ⟨D, j, none⟩ = some (.int .u8 (xs.getD j 0))) := by
    intro w' D _ hD hc hk j hj
    have s1 := HS1.out
    refine hk.cell (p := ⟨D, j, none⟩) ?_ (fun ht => by have := (H3.out _ ht).1; simp at this; omega)
    exact (HB3.out.cell (p := ⟨D, j, none⟩) (by simp; omega)).trans ((HB2.out.cell (p := ⟨D, j, none⟩) hD).trans (hc j hj))
  go_loopg [4] (xs.length + 1) (fun gk s4 wr => Outer C B U R r2 xs W3 gk s4 wr)
  case atStart =>
    refine ⟨0, 0, 0, rfl, Nat.le_refl _, Nat.zero_le _, ?_, Keep.refl _ _⟩
    have e : (if 0 < xs.length then 0 else xs.length) = 0 := by split <;> omega
    rw [e]; exact HRD.out
  case round =>
    obtain ⟨st, k, r, rfl, hgk, hst, hrd, hkp⟩ := hrel
    have HGK : Hid (xs.length + 1 - st ≤ gk) := hgk
    have HKP : Hid (Keep (Three B U R) W3 wr) := hkp
    have HE : Hid (Env wr B U R r2 xs ea fa) := (HGR.out _ hkp).1
    have HF : Hid (Errs wr B U R ea fa) := (HGR.out _ hkp).2.1
    clear hgk hkp
    by_cases hlt : st < xs.length
    · rw [if_pos hlt] at hrd
      have HRD1 : Hid (Rd wr C B U R r2 xs st k r .nilIface) := hrd
      clear hrd hst
      rcases HR1.out with hnil | ⟨D, rfl, hD1, hD2, hDc⟩
      · rw [hnil] at hlt; exact absurd hlt (Nat.not_lt_zero _)
      have HDW : Hid (∀ j, j < xs.length → wr.cell? ⟨D, j, none⟩ = some (.int .u8 (xs.getD j 0))) := HDA.out wr D rfl hD2 hDc HKP.out
      have HD2 : Hid (D < W1.heap.size) := hD2
      have HDC : Hid (∀ j, j < xs.length → W1.cell? ⟨D, j, none⟩ = some (.int .u8 (xs.getD j 0))) := hDc
      clear hDc hD1 hD2
      go_wp2
      go_loopw [5] (fun s5 wi => ∃ L : Nat, st + L ≤ xs.length ∧ s5 = .int .i64 ((st + L : Nat) : Int) ∧ NoLF xs st L ∧ wi = wr) (fun s5 _ => xs.length - (intOf s5).toNat)
      case atStart => exact ⟨0, by omega, rfl, fun j hj => absurd hj (Nat.not_lt_zero _), rfl⟩
      case round =>
        obtain ⟨L, hle, rfl, hno, hwi⟩ := hrel
        subst hwi
        have HNO : Hid (NoLF xs st L) := hno
        clear hno
        by_cases hend : st + L < xs.length
        · have g1 := HDW.out (st + L) hend
          by_cases h10 : xs.getD (st + L) 0 = 10
          · rw [h10] at g1
            have HL : Hid (IsLine xs st L) := ⟨HNO.out, hle, .inr h10⟩
            clear h10
            by_cases hc : C ≤ L
            · have hlen : (want xs C st L).length = 10000 := by rw [want_length xs C st L hle, if_pos hc, hC]
              go_wp2_with ((go_at_call 9; refine Calls.mono (zz_line C B U R r2 xs st k r L ea fa wr hC hbs HE.out HF.out HRD1.out HL.out hlt) ?_; rintro _ W5 ⟨v, b, k5, r5, rfl, hrd5, hk5, hb5, hv5⟩; obtain ⟨va, vc, hv, hvb⟩ := own_slice hv5; rw [hlen] at hv; subst hv; have HR5 : Hid _ := hrd5; have HK5 : Hid _ := hk5; have HVB : Hid _ := hvb; clear hrd5 hk5 hb5 hv5 hvb))
              go_wp2_with ((go_at_call 10; refine Calls.mono (eq_yes va (some ⟨D, st, none⟩) 10000 vc _ (want xs C st L) hlen W5 HVB.out (want_bs C hlt hle (HDA.out W5 D rfl HD2.out HDC.out (HKP.out.trans HK5.out))) (by decide)) ?_; rintro _ W6 ⟨rfl, q, rfl⟩))
              go_roundg (xs.length + 1 - (st + L + 1))
              case rel => exact Outer.next hle HKP.out HR5.out HK5.out _ _ (by go_num)
              case measure => have := HGK.out; omega
            · have hlC : ¬ (9999 : Int) < (L : Int) := by omega
              by_cases hL0 : L = 0
              · have hlen : (want xs C st L).length = L := by rw [want_length xs C st L hle, if_neg hc]; unfold trimLen; rw [if_neg (by omega)]
                rw [hL0] at hlen hle HL g1
                rw [Nat.add_zero] at g1
                clear hend hlC hc
                subst hL0
                go_wp2_with ((go_at_call 9; refine Calls.mono (zz_line C B U R r2 xs st k r 0 ea fa wr hC hbs HE.out HF.out HRD1.out HL.out hlt) ?_; rintro _ W5 ⟨v, b, k5, r5, rfl, hrd5, hk5, hb5, hv5⟩; obtain ⟨va, vc, hv, hvb⟩ := own_slice hv5; rw [hlen] at hv; subst hv; have HR5 : Hid _ := hrd5; have HK5 : Hid _ := hk5; have HVB : Hid _ := hvb; clear hrd5 hk5 hb5 hv5 hvb))
                go_wp2_with ((go_at_call 10; refine Calls.mono (eq_yes va (some ⟨D, st, none⟩) 0 vc _ (want xs C st 0) hlen W5 HVB.out (want_bs C hlt hle (HDA.out W5 D rfl HD2.out HDC.out (HKP.out.trans HK5.out))) (by omega)) ?_; rintro _ W6 ⟨rfl, q, rfl⟩))
                go_roundg (xs.length + 1 - (st + 0 + 1))
                case rel => exact Outer.next hle HKP.out HR5.out HK5.out _ _ (by go_num)
                case measure => have := HGK.out; omega
              · have g2 := HDW.out (st + (L - 1)) (by omega)
                have hL1 : (0 : Int) < (L : Int) := by omega
                by_cases h13 : xs.getD (st + (L - 1)) 0 = 13
                · rw [h13] at g2
                  have hlen : (want xs C st L).length = L - 1 := by rw [want_length xs C st L hle, if_neg hc]; unfold trimLen; rw [if_pos ⟨by omega, h13⟩]
                  clear h13
                  go_wp2_with ((go_at_call 9; refine Calls.mono (zz_line C B U R r2 xs st k r L ea fa wr hC hbs HE.out HF.out HRD1.out HL.out hlt) ?_; rintro _ W5 ⟨v, b, k5, r5, rfl, hrd5, hk5, hb5, hv5⟩; obtain ⟨va, vc, hv, hvb⟩ := own_slice hv5; rw [hlen] at hv; subst hv; have HR5 : Hid _ := hrd5; have HK5 : Hid _ := hk5; have HVB : Hid _ := hvb; clear hrd5 hk5 hb5 hv5 hvb))
                  go_wp2_with ((go_at_call 10; refine Calls.mono (eq_yes va (some ⟨D, st, none⟩) (L - 1) vc _ (want xs C st L) hlen W5 HVB.out (want_bs C hlt hle (HDA.out W5 D rfl HD2.out HDC.out (HKP.out.trans HK5.out))) (by omega)) ?_; rintro _ W6 ⟨rfl, q, rfl⟩))
                  go_roundg (xs.length + 1 - (st + L + 1))
                  case rel => exact Outer.next hle HKP.out HR5.out HK5.out _ _ (by go_num)
                  case measure => have := HGK.out; omega
                · have hlen : (want xs C st L).length = L := by rw [want_length xs C st L hle, if_neg hc]; unfold trimLen; rw [if_neg (fun e => h13 e.2)]
                  obtain ⟨z, hz⟩ : ∃ z, xs.getD (st + (L - 1)) 0 = z := ⟨_, rfl⟩
                  rw [hz] at g2 h13
                  clear hz
                  go_wp2_with ((go_at_call 9; refine Calls.mono (zz_line C B U R r2 xs st k r L ea fa wr hC hbs HE.out HF.out HRD1.out HL.out hlt) ?_; rintro _ W5 ⟨v, b, k5, r5, rfl, hrd5, hk5, hb5, hv5⟩; obtain ⟨va, vc, hv, hvb⟩ := own_slice hv5; rw [hlen] at hv; subst hv; have HR5 : Hid _ := hrd5; have HK5 : Hid _ := hk5; have HVB : Hid _ := hvb; clear hrd5 hk5 hb5 hv5 hvb))
                  go_wp2_with ((go_at_call 10; refine Calls.mono (eq_yes va (some ⟨D, st, none⟩) L vc _ (want xs C st L) hlen W5 HVB.out (want_bs C hlt hle (HDA.out W5 D rfl HD2.out HDC.out (HKP.out.trans HK5.out))) (by omega)) ?_; rintro _ W6 ⟨rfl, q, rfl⟩))
                  go_roundg (xs.length + 1 - (st + L + 1))
                  case rel => exact Outer.next hle HKP.out HR5.out HK5.out _ _ (by go_num)
                  case measure => have := HGK.out; omega
          · have HX : Hid (NoLF xs st (L + 1)) := by
              intro j hj
              by_cases e : j = L
              · subst e; exact h10
              · exact HNO.out j (by omega)
            obtain ⟨z, hz⟩ : ∃ z, xs.getD (st + L) 0 = z := ⟨_, rfl⟩
            rw [hz] at g1 h10
            go_wp2
            go_roundw
            case rel => exact ⟨L + 1, by omega, by go_num, HX.out, trivial⟩
            case measure => simp [intOf]; omega
        · have HL : Hid (IsLine xs st L) := ⟨HNO.out, hle, .inl (by omega)⟩
          by_cases hc : C ≤ L
          · have hlen : (want xs C st L).length = 10000 := by rw [want_length xs C st L hle, if_pos hc, hC]
            go_wp2_with ((go_at_call 9; refine Calls.mono (zz_line C B U R r2 xs st k r L ea fa wr hC hbs HE.out HF.out HRD1.out HL.out hlt) ?_; rintro _ W5 ⟨v, b, k5, r5, rfl, hrd5, hk5, hb5, hv5⟩; obtain ⟨va, vc, hv, hvb⟩ := own_slice hv5; rw [hlen] at hv; subst hv; have HR5 : Hid _ := hrd5; have HK5 : Hid _ := hk5; have HVB : Hid _ := hvb; clear hrd5 hk5 hb5 hv5 hvb))
            go_wp2_with ((go_at_call 10; refine Calls.mono (eq_yes va (some ⟨D, st, none⟩) 10000 vc _ (want xs C st L) hlen W5 HVB.out (want_bs C hlt hle (HDA.out W5 D rfl HD2.out HDC.out (HKP.out.trans HK5.out))) (by decide)) ?_; rintro _ W6 ⟨rfl, q, rfl⟩))
            go_roundg (xs.length + 1 - (st + L + 1))
            case rel => exact Outer.next hle HKP.out HR5.out HK5.out _ _ (by go_num)
            case measure => have := HGK.out; omega
          · have hlC : ¬ (9999 : Int) < (L : Int) := by omega
            by_cases hL0 : L = 0
            · omega
            · have g2 := HDW.out (st + (L - 1)) (by omega)
              have hL1 : (0 : Int) < (L : Int) := by omega
              by_cases h13 : xs.getD (st + (L - 1)) 0 = 13
              · rw [h13] at g2
                have hlen : (want xs C st L).length = L - 1 := by rw [want_length xs C st L hle, if_neg hc]; unfold trimLen; rw [if_pos ⟨by omega, h13⟩]
                clear h13
                go_wp2_with ((go_at_call 9; refine Calls.mono (zz_line C B U R r2 xs st k r L ea fa wr hC hbs HE.out HF.out HRD1.out HL.out hlt) ?_; rintro _ W5 ⟨v, b, k5, r5, rfl, hrd5, hk5, hb5, hv5⟩; obtain ⟨va, vc, hv, hvb⟩ := own_slice hv5; rw [hlen] at hv; subst hv; have HR5 : Hid _ := hrd5; have HK5 : Hid _ := hk5; have HVB : Hid _ := hvb; clear hrd5 hk5 hb5 hv5 hvb))
                go_wp2_with ((go_at_call 10; refine Calls.mono (eq_yes va (some ⟨D, st, none⟩) (L - 1) vc _ (want xs C st L) hlen W5 HVB.out (want_bs C hlt hle (HDA.out W5 D rfl HD2.out HDC.out (HKP.out.trans HK5.out))) (by omega)) ?_; rintro _ W6 ⟨rfl, q, rfl⟩))
                go_roundg (xs.length + 1 - (st + L + 1))
                case rel => exact Outer.next hle HKP.out HR5.out HK5.out _ _ (by go_num)
                case measure => have := HGK.out; omega
              · have hlen : (want xs C st L).length = L := by rw [want_length xs C st L hle, if_neg hc]; unfold trimLen; rw [if_neg (fun e => h13 e.2)]
                obtain ⟨z, hz⟩ : ∃ z, xs.getD (st + (L - 1)) 0 = z := ⟨_, rfl⟩
                rw [hz] at g2 h13
                clear hz
                go_wp2_with ((go_at_call 9; refine Calls.mono (zz_line C B U R r2 xs st k r L ea fa wr hC hbs HE.out HF.out HRD1.out HL.out hlt) ?_; rintro _ W5 ⟨v, b, k5, r5, rfl, hrd5, hk5, hb5, hv5⟩; obtain ⟨va, vc, hv, hvb⟩ := own_slice hv5; rw [hlen] at hv; subst hv; have HR5 : Hid _ := hrd5; have HK5 : Hid _ := hk5; have HVB : Hid _ := hvb; clear hrd5 hk5 hb5 hv5 hvb))
                go_wp2_with ((go_at_call 10; refine Calls.mono (eq_yes va (some ⟨D, st, none⟩) L vc _ (want xs C st L) hlen W5 HVB.out (want_bs C hlt hle (HDA.out W5 D rfl HD2.out HDC.out (HKP.out.trans HK5.out))) (by omega)) ?_; rintro _ W6 ⟨rfl, q, rfl⟩))
                go_roundg (xs.length + 1 - (st + L + 1))
                case rel => exact Outer.next hle HKP.out HR5.out HK5.out _ _ (by go_num)
                case measure => have := HGK.out; omega
    · rw [if_neg hlt] at hrd
      have HRD1 : Hid (Rd wr C B U R r2 xs xs.length k r .nilIface) := hrd
      clear hrd
      go_wp2_with ((go_at_call 9; refine Calls.mono (zz_end C B U R r2 xs xs.length k r ea fa wr hC hbs HE.out HF.out HRD1.out rfl) ?_; rintro _ W5 ⟨rfl, hk5⟩; have HK5 : Hid _ := hk5; clear hk5))
      go_ret
      exact ⟨rfl, (HGR.out _ (HKP.out.trans HK5.out)).2.2⟩
end Go.Proofs.Qxb6612819aDoor
