/-
  readLine (17): a line that fills the buffer.
-/
import Derived.Test.Qxb6612819aDoorLine1
import Derived.Deep.LoopGhost
namespace Go.Proofs.Qxb6612819aDoor
open Go.RowKit

theorem neq_same (a : Addr) (w : World) : (binOp .neq 28 (.iface 65 (.pointer (some a))) (.iface 65 (.pointer (some a)))).run Tryd.prog w = .ok (.bool false) w := by
  simp only [binOp]
  simp [Op.equal, Op.maxDepth, run_equalIn_iface_ptr_same (P := Tryd.prog) (ti := 28) (tp := 65) w 9998 a Tryd.underlying28 Tryd.underlying65 rfl rfl rfl]

theorem owns_keep {W W' : World} {B U R base : Nat} {e : TypeId} {size : Nat} {v : Value} {n : Nat} {xs : List Value} (h : W.ownsRow base e size v n xs) (hk : Keep (Three B U R) W W') (hlt : ∀ k, Three B U R k → k < base) : W'.ownsRow base e size v n xs := by
  refine ⟨h.1, ?_⟩
  rcases h.2 with h1 | ⟨g, cap, cur, h1, h2, h3, h4⟩
  · exact .inl h1
  · refine .inr ⟨g, cap, cur, h1, h2, (hk.block g ?_ (fun h' => Nat.not_lt_of_le h2 (hlt g h'))).trans h3, h4⟩
    rcases Nat.lt_or_ge g W.heap.size with hh | hh
    · exact hh
    · rw [Array.getElem?_eq_none hh] at h3; cases h3
theorem Rd.three {W : World} {C B U R : Nat} {sa : Option Addr} {ds : List Int} {p k r : Nat} {ev : Value} (h : Rd W C B U R sa ds p k r ev) : ∀ j, Three B U R j → j < W.heap.size := by
  obtain ⟨_, _, lb, lr, pr, cur, st, _, _⟩ := h
  rintro j (rfl | rfl | rfl)
  · exact st.hB.lt
  · exact st.hU.lt
  · exact st.hR.lt

def nextPos (ds : List Int) (p L : Nat) : Nat := if p + L < ds.length then p + L + 1 else p + L

/-- At the head of 'for err == ErrBufferFull'. -/
def Skip (C B U R : Nat) (sa : Option Addr) (ds : List Int) (q : Nat) (ea fa : Addr) (W : World) (gk : Nat) (s : Value) (wr : World) : Prop :=
  ∃ p k r, Rd wr C B U R sa ds p k r .nilIface ∧ Keep (Three B U R) W wr ∧ ((s = .iface 65 (.pointer (some fa)) ∧ ∃ L, IsLine ds p L ∧ p + L = q ∧ L + 2 ≤ gk) ∨ (s = .nilIface ∧ p = q + 1 ∧ q < ds.length) ∨ (s = .iface 65 (.pointer (some ea)) ∧ p = q ∧ q = ds.length))

theorem IsLine.drop {ds : List Int} {p L C : Nat} (h : IsLine ds p L) (hC : C ≤ L) : IsLine ds (p + C) (L - C) := by
  refine ⟨fun j hj => ?_, by have := h.le; omega, ?_⟩
  · rw [Nat.add_assoc]; exact h.no (C + j) (by omega)
  · rw [show p + C + (L - C) = p + L by omega]; exact h.stop

set_option maxRecDepth 20000 in
set_option maxHeartbeats 4000000 in
theorem line_long (C B U R : Nat) (sa : Option Addr) (ds : List Int) (p k0 r0 L : Nat) (ea fa : Addr) (W : World) (hC : C = 10000) (hb : Bytes ds) (E : Env W B U R sa ds ea fa) (F : Errs W B U R ea fa) (h : Rd W C B U R sa ds p k0 r0 .nilIface) (hL : IsLine ds p L) (hlC : C ≤ L) :
    Calls Tryd.prog 17 #[.pointer (some ⟨B, 0, none⟩)] W (LineOut C B U R sa ds (nextPos ds p L) ((ds.drop p).take C) W) := by
  have HS : Hid (Calls Tryd.prog 20 #[.pointer (some ⟨B, 0, none⟩), .int .u8 10] W (SliceAt C B U R sa ds p C (.iface 65 (.pointer (some fa))) W)) := slice_full C B U R sa ds p k0 r0 L ea fa W (by omega) (by omega) hb E h hL hlC
  have HE : Hid (Env W B U R sa ds ea fa) := E
  have HF : Hid (Errs W B U R ea fa) := F
  have hle := hL.le
  have HL : Hid (IsLine ds p L) := hL
  have es := eql_same
  have cI : (10000 : Int) = (C : Int) := by omega
  have hC1 : C ≤ 10000 := by omega
  clear E F h hL hC
  go_enter Tryd.func17, Tryd.ntmps17
  go_wp2_with ((go_at_call 20; refine Calls.mono HS.out ?_; rintro _ W1 ⟨r, c, k2, r2, rfl, hmc, hcC, hrd, hkp, hln⟩; have g0 := (HE.out.keep hkp).full; have g1 := (HE.out.keep hkp).eof; have HK : Hid _ := hkp; have HLN : Hid _ := hln; have HRD : Hid _ := hrd; obtain rfl : c = C := Nat.le_antisymm hcC hmc; clear hkp hln hrd))
  go_wp2_with ((go_at_call 21; refine Calls.mono (clone_call W1 U r c c p ds HLN.out (by omega) (by omega)) ?_; rintro _ W4 ⟨v, rfl, hown, hbel⟩; have HOW : Hid _ := hown; have HBE : Hid _ := hbel; clear hown hbel))
  have HK4 : Hid (Keep (Three B U R) W W4) := HK.out.trans (Keep.of_below HBE.out)
  have HRD4 : Hid (Rd W4 c B U R sa ds (p + c) k2 r2 .nilIface) := Rd.below HRD.out HBE.out
  have en := eql_nil
  go_loopg [5] (L - c + 2) (fun gk s5 wr => Skip c B U R sa ds (p + L) ea fa W4 gk s5 wr)
  case atStart => exact ⟨p + c, k2, r2, HRD4.out, Keep.refl _ _, .inl ⟨rfl, L - c, HL.out.drop hlC, by omega, Nat.le_refl _⟩⟩
  case round =>
    obtain ⟨p1, k1, r1, hrd1, hkp1, hcase⟩ := hrel
    have hK1 : Hid (Keep (Three B U R) W wr) := HK4.out.trans hkp1
    have hE1 : Hid (Env wr B U R sa ds ea fa) := HE.out.keep hK1.out
    have hF1 : Hid (Errs wr B U R ea fa) := HF.out.keep hK1.out
    have g0 := hE1.out.full
    have g1 := hE1.out.eof
    rcases hcase with ⟨rfl, L1, hL1, hq, hgk⟩ | ⟨rfl, hp, hq⟩ | ⟨rfl, hp, hq⟩
    · have hl1 := hL1.le
      rcases Nat.lt_or_ge L1 c with hlt | hge
      · rcases Nat.lt_or_ge (p1 + L1) ds.length with hn | hn
        · have HS1 : Hid (Calls Tryd.prog 20 #[.pointer (some ⟨B, 0, none⟩), .int .u8 10] wr (SliceAt c B U R sa ds p1 (L1 + 1) .nilIface wr)) := slice_line c B U R sa ds p1 k1 r1 L1 ea fa wr hC1 (by omega) hb hE1.out hrd1 hL1 hlt hn
          have HK1 : Hid (Keep (Three B U R) W4 wr) := hkp1
          have HL1 : Hid (IsLine ds p1 L1) := hL1
          clear hkp1 hL1 hrd1
          go_wp2_with ((go_at_call 20; refine Calls.mono HS1.out ?_; rintro _ W5 ⟨r5, c5, k5, q5, rfl, _, _, hrd5, hkp5, _⟩; have HR5 : Hid _ := hrd5; have HK5 : Hid _ := hkp5; clear hrd5 hkp5))
          go_roundg 0
          case measure => omega
          case rel => exact ⟨_, k5, q5, HR5.out, HK1.out.trans HK5.out, .inr (.inl ⟨rfl, by omega, by omega⟩)⟩
        · have HS1 : Hid (Calls Tryd.prog 20 #[.pointer (some ⟨B, 0, none⟩), .int .u8 10] wr (SliceAt c B U R sa ds p1 L1 (.iface 65 (.pointer (some ea))) wr)) := slice_eof c B U R sa ds p1 k1 r1 L1 ea fa wr hC1 (by omega) hb hE1.out hrd1 hL1 hlt (by omega)
          have HK1 : Hid (Keep (Three B U R) W4 wr) := hkp1
          have HL1 : Hid (IsLine ds p1 L1) := hL1
          clear hkp1 hL1 hrd1
          go_wp2_with ((go_at_call 20; refine Calls.mono HS1.out ?_; rintro _ W5 ⟨r5, c5, k5, q5, rfl, _, _, hrd5, hkp5, _⟩; have HR5 : Hid _ := hrd5; have HK5 : Hid _ := hkp5; clear hrd5 hkp5))
          go_roundg 0
          case measure => omega
          case rel => exact ⟨_, k5, q5, HR5.out, HK1.out.trans HK5.out, .inr (.inr ⟨rfl, by omega, by omega⟩)⟩
      · have HS1 : Hid (Calls Tryd.prog 20 #[.pointer (some ⟨B, 0, none⟩), .int .u8 10] wr (SliceAt c B U R sa ds p1 c (.iface 65 (.pointer (some fa))) wr)) := slice_full c B U R sa ds p1 k1 r1 L1 ea fa wr hC1 (by omega) hb hE1.out hrd1 hL1 hge
        have HK1 : Hid (Keep (Three B U R) W4 wr) := hkp1
        have HL1 : Hid (IsLine ds p1 L1) := hL1
        clear hkp1 hL1 hrd1
        go_wp2_with ((go_at_call 20; refine Calls.mono HS1.out ?_; rintro _ W5 ⟨r5, c5, k5, q5, rfl, _, _, hrd5, hkp5, _⟩; have HR5 : Hid _ := hrd5; have HK5 : Hid _ := hkp5; clear hrd5 hkp5))
        go_roundg (L1 - c + 2)
        case measure => omega
        case rel => exact ⟨_, k5, q5, HR5.out, HK1.out.trans HK5.out, .inl ⟨rfl, L1 - c, HL1.out.drop hge, by omega, Nat.le_refl _⟩⟩
    · have HN : Hid (p1 = nextPos ds p L) := by show _ = _; unfold nextPos; rw [if_pos hq]; exact hp
      have HFIN : Hid (LineOut c B U R sa ds (nextPos ds p L) ((ds.drop p).take c) W (.returned (.tuple #[v, .nilIface])) wr) := ⟨v, W1.heap.size, k1, r1, rfl, HN.out ▸ hrd1, hK1.out, HK.out.size, owns_keep HOW.out hkp1 (Rd.three HRD.out)⟩
      clear hp hq hrd1 hkp1
      go_wp2
      go_ret2
      exact HFIN.out
    · have HN : Hid (p1 = nextPos ds p L) := by show _ = _; unfold nextPos; rw [if_neg (by omega)]; exact hp
      have HFIN : Hid (LineOut c B U R sa ds (nextPos ds p L) ((ds.drop p).take c) W (.returned (.tuple #[v, .nilIface])) wr) := ⟨v, W1.heap.size, k1, r1, rfl, HN.out ▸ hrd1, hK1.out, HK.out.size, owns_keep HOW.out hkp1 (Rd.three HRD.out)⟩
      clear hp hq hrd1 hkp1
      have es2 := neq_same
      have eo := eql_other hF1.out.ne hF1.out.e1 hF1.out.f1
      go_wp2
      go_ret2
      exact HFIN.out
end Go.Proofs.Qxb6612819aDoor
