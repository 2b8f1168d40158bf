/-
  readLine (17): a line of less than the buffer's length.
-/
import Derived.Test.Qxb6612819aDoorTrim
namespace Go.Proofs.Qxb6612819aDoor
open Go.RowKit

theorem convert2 (w : World) (X : Obj) (C : Array Value) (n c : Nat) :
    (convert 22 22 (.slice (some ⟨w.heap.size + 1, 0, none⟩) n c)).run Tryd.prog ((w.alloc X).alloc (.cells C 5)) = .ok (.slice (some ⟨w.heap.size + 1, 0, none⟩) n c) ((w.alloc X).alloc (.cells C 5 (C.size, C.size + 1))) := by
  have h := Lib.run_convert_bytes_const (P := Tryd.prog) (w.alloc X) 22 5 C n c Tryd.underlying22 Tryd.underlying5
  rwa [World.size_alloc] at h
theorem trimLen_le (ds : List Int) (p m : Nat) (y : Int) : trimLen ds p m y ≤ m := by unfold trimLen; split <;> omega
theorem trim_no {ds : List Int} {p L : Nat} (h : IsLine ds p L) : trimLen ds p L 10 = L := by
  unfold trimLen
  rw [if_neg]
  rintro ⟨h1, h2⟩
  exact h.no (L - 1) (by omega) h2
theorem trim_lf {ds : List Int} {p L : Nat} (h : IsLine ds p L) (hn : p + L < ds.length) : trimLen ds p (L + 1) 10 = L := by
  have h10 : ds.getD (p + L) 0 = 10 := h.stop.elim (fun e => by omega) id
  exact if_pos ⟨Nat.succ_pos _, h10⟩
theorem clone_call (W : World) (U r c T p : Nat) (ds : List Int) (hl : Line W U r T ds p) (hp : p + T ≤ ds.length) (hT : T ≤ 1048576) :
    Calls Tryd.prog 21 #[.slice (some ⟨U, r, none⟩) T c] W fun e w' => ∃ v', e = .returned v' ∧ w'.ownsRow W.heap.size 5 1 v' ((ds.drop p).take T).length (((ds.drop p).take T).map (Value.int .u8)) ∧ Below W.heap.size W w' := by
  have hlen : ((ds.drop p).take T).length = T := by rw [List.length_take, List.length_drop]; omega
  refine Calls.mono (Tryd.bytes_Clone_at ⟨U, r, none⟩ T c ((ds.drop p).take T) W hlen (by omega) ?_) ?_
  · intro i hi
    rw [WideShapes.add_plain, hl i hi, List.getD_eq_getElem?_getD, List.getD_eq_getElem?_getD, List.getElem?_take, if_pos hi, List.getElem?_drop]
  · rintro e w' ⟨v, rfl, h1, _, h2⟩
    exact ⟨v, rfl, by rw [hlen]; exact h1, h2⟩
theorem line_out {C B U R : Nat} {sa : Option Addr} {ds : List Int} {q k r : Nat} {xs : List Int} {W W1 W4 : World} {v : Value} {X Y : Obj} (hrd : Rd W1 C B U R sa ds q k r .nilIface) (hk : Keep (Three B U R) W W1)
    (ho : W4.ownsRow ((W1.alloc X).alloc Y).heap.size 5 1 v xs.length (xs.map (Value.int .u8))) (hb : Below ((W1.alloc X).alloc Y).heap.size ((W1.alloc X).alloc Y) W4) :
    LineOut C B U R sa ds q xs W (.returned (.tuple #[v, .nilIface])) W4 := by
  have hs := hk.size
  have hb1 : Below W1.heap.size W1 W4 := by
    have h1 : Below W1.heap.size W1 ((W1.alloc X).alloc Y) := ((Below.refl _ W1).alloc (Nat.le_refl _) X).alloc (by rw [World.size_alloc]; omega) Y
    exact ⟨hb.os.trans h1.os, hb.tape.trans h1.tape, hb.output.trans h1.output, Nat.le_trans h1.size hb.size, fun k hk => (hb.block k (by rw [World.size_alloc, World.size_alloc]; omega)).trans (h1.block k hk)⟩
  exact ⟨v, _, k, r, rfl, hrd.below hb1, hk.trans (Keep.of_below hb1), by rw [World.size_alloc, World.size_alloc]; omega, ho⟩

set_option maxRecDepth 20000 in
set_option maxHeartbeats 4000000 in
theorem line_lf (C B U R : Nat) (sa : Option Addr) (ds : List Int) (p k0 r0 L T : Nat) (ea fa : Addr) (W : World) (hC : C ≤ 10000) (hC0 : 0 < C) (hb : Bytes ds) (E : Env W B U R sa ds ea fa) (F : Errs W B U R ea fa) (h : Rd W C B U R sa ds p k0 r0 .nilIface) (hL : IsLine ds p L) (hlC : L < C) (hn : p + L < ds.length) (hT : trimLen ds p L 13 = T) :
    Calls Tryd.prog 17 #[.pointer (some ⟨B, 0, none⟩)] W (LineOut C B U R sa ds (p + (L + 1)) ((ds.drop p).take T) W) := by
  have HS : Hid (Calls Tryd.prog 20 #[.pointer (some ⟨B, 0, none⟩), .int .u8 10] W (SliceAt C B U R sa ds p (L + 1) .nilIface W)) := slice_line C B U R sa ds p k0 r0 L ea fa W hC hC0 hb E h hL hlC hn
  have HE : Hid (Env W B U R sa ds ea fa) := E
  have HF : Hid (Errs W B U R ea fa) := F
  have HT1 : Hid (trimLen ds p (L + 1) 10 = L) := trim_lf hL hn
  have HT2 : Hid (trimLen ds p L 13 = T) := hT
  have hle := hL.le
  have HTL : Hid (T ≤ L) := by rw [← hT]; exact trimLen_le _ _ _ _
  have en := eql_nil
  have kc := fun (w : World) (C : Array Value) (n c : Nat) => Lib.run_convert_bytes_const (P := Tryd.prog) w 22 5 C n c Tryd.underlying22 Tryd.underlying5
  skip
  have kc2 := convert2
  clear E F h hL hT
  go_enter Tryd.func17, Tryd.ntmps17
  go_wp2_with ((go_at_call 20; refine Calls.mono HS.out ?_; rintro _ W1 ⟨r, c, k2, r2, rfl, hmc, hcC, hrd, hkp, hln⟩; have g0 := (HE.out.keep hkp).full; have g1 := (HE.out.keep hkp).eof; have HK : Hid _ := hkp; have HLN : Hid _ := hln; have HRD : Hid _ := hrd; clear hkp hln hrd))
  have HL2 : Hid (Line (W1.alloc (.cells #[.int .u8 10] 5 (1, 2))) U r (L + 1) ds p) := fun j hj => Lib.cell?_alloc_marked _ (HLN.out j hj)
  go_wp2_with ((go_at_call 22; (with_reducible show Calls Tryd.prog 22 #[.slice (some ⟨U, r, none⟩) (L + 1) c, .slice (some ⟨W1.heap.size, 0, none⟩) 1 1] _ _); refine Calls.mono (trim_call _ U r c W1.heap.size (L + 1) p ds 10 hb HL2.out (by omega) hmc (by omega) (by decide) (by rw [World.cell?_alloc_mark]; rfl)) ?_; rw [HT1.out]; rintro _ _ ⟨rfl, rfl⟩))
  have HL3 : Hid (Line ((W1.alloc (.cells #[.int .u8 10] 5 (1, 2))).alloc (.cells #[.int .u8 13] 5 (1, 2))) U r L ds p) := fun j hj => Lib.cell?_alloc_marked _ (HL2.out j (by omega))
  go_wp2_with ((go_at_call 22; refine Calls.mono (trim_call _ U r c (W1.heap.size + 1) L p ds 13 hb HL3.out (by omega) (by omega) (by omega) (by decide) (by rw [← World.size_alloc W1 (.cells #[.int .u8 10] 5 (1, 2)), World.cell?_alloc_mark]; rfl)) ?_; rw [HT2.out]; rintro _ _ ⟨rfl, rfl⟩))
  have HL4 : Hid (Line ((W1.alloc (.cells #[.int .u8 10] 5 (1, 2))).alloc (.cells #[.int .u8 13] 5 (1, 2))) U r T ds p) := fun j hj => HL3.out j (Nat.lt_of_lt_of_le hj HTL.out)
  go_wp2_with ((go_at_call 21; refine Calls.mono (clone_call _ U r c T p ds HL4.out (by have := HTL.out; omega) (by have := HTL.out; omega)) ?_; rintro _ W4 ⟨v, rfl, hown, hbel⟩; have HOW : Hid _ := hown; have HBE : Hid _ := hbel; clear hown hbel))
  go_ret2
  exact line_out HRD.out HK.out HOW.out HBE.out

set_option maxRecDepth 20000 in
set_option maxHeartbeats 4000000 in
theorem line_eof (C B U R : Nat) (sa : Option Addr) (ds : List Int) (p k0 r0 L T : Nat) (ea fa : Addr) (W : World) (hC : C ≤ 10000) (hC0 : 0 < C) (hb : Bytes ds) (E : Env W B U R sa ds ea fa) (F : Errs W B U R ea fa) (h : Rd W C B U R sa ds p k0 r0 .nilIface) (hL : IsLine ds p L) (hlC : L < C) (hn : p + L = ds.length) (hL0 : 0 < L) (hT : trimLen ds p L 13 = T) :
    Calls Tryd.prog 17 #[.pointer (some ⟨B, 0, none⟩)] W (LineOut C B U R sa ds (p + L) ((ds.drop p).take T) W) := by
  have HS : Hid (Calls Tryd.prog 20 #[.pointer (some ⟨B, 0, none⟩), .int .u8 10] W (SliceAt C B U R sa ds p L (.iface 65 (.pointer (some ea))) W)) := slice_eof C B U R sa ds p k0 r0 L ea fa W hC hC0 hb E h hL hlC hn
  have HE : Hid (Env W B U R sa ds ea fa) := E
  have HF : Hid (Errs W B U R ea fa) := F
  have HT1 : Hid (trimLen ds p L 10 = L) := trim_no hL
  have HT2 : Hid (trimLen ds p L 13 = T) := hT
  have hle := hL.le
  have HTL : Hid (T ≤ L) := by rw [← hT]; exact trimLen_le _ _ _ _
  have es := eql_same
  have kc := fun (w : World) (C : Array Value) (n c : Nat) => Lib.run_convert_bytes_const (P := Tryd.prog) w 22 5 C n c Tryd.underlying22 Tryd.underlying5
  have l0 : (0 : Int) < (L : Int) := by omega
  have kc2 := convert2
  clear E F h hL hT
  go_enter Tryd.func17, Tryd.ntmps17
  go_wp2_with ((go_at_call 20; refine Calls.mono HS.out ?_; rintro _ W1 ⟨r, c, k2, r2, rfl, hmc, hcC, hrd, hkp, hln⟩; have g0 := (HE.out.keep hkp).full; have g1 := (HE.out.keep hkp).eof; have eo := eql_other HF.out.ne (HF.out.keep hkp).e1 (HF.out.keep hkp).f1; have HK : Hid _ := hkp; have HLN : Hid _ := hln; have HRD : Hid _ := hrd; clear hkp hln hrd))
  have HL2 : Hid (Line (W1.alloc (.cells #[.int .u8 10] 5 (1, 2))) U r L ds p) := fun j hj => Lib.cell?_alloc_marked _ (HLN.out j hj)
  go_wp2_with ((go_at_call 22; (with_reducible show Calls Tryd.prog 22 #[.slice (some ⟨U, r, none⟩) L c, .slice (some ⟨W1.heap.size, 0, none⟩) 1 1] _ _); refine Calls.mono (trim_call _ U r c W1.heap.size L p ds 10 hb HL2.out (by omega) hmc (by omega) (by decide) (by rw [World.cell?_alloc_mark]; rfl)) ?_; rw [HT1.out]; rintro _ _ ⟨rfl, rfl⟩))
  have HL3 : Hid (Line ((W1.alloc (.cells #[.int .u8 10] 5 (1, 2))).alloc (.cells #[.int .u8 13] 5 (1, 2))) U r L ds p) := fun j hj => Lib.cell?_alloc_marked _ (HL2.out j (by omega))
  go_wp2_with ((go_at_call 22; refine Calls.mono (trim_call _ U r c (W1.heap.size + 1) L p ds 13 hb HL3.out (by omega) (by omega) (by omega) (by decide) (by rw [← World.size_alloc W1 (.cells #[.int .u8 10] 5 (1, 2)), World.cell?_alloc_mark]; rfl)) ?_; rw [HT2.out]; rintro _ _ ⟨rfl, rfl⟩))
  have HL4 : Hid (Line ((W1.alloc (.cells #[.int .u8 10] 5 (1, 2))).alloc (.cells #[.int .u8 13] 5 (1, 2))) U r T ds p) := fun j hj => HL3.out j (Nat.lt_of_lt_of_le hj HTL.out)
  go_wp2_with ((go_at_call 21; refine Calls.mono (clone_call _ U r c T p ds HL4.out (by have := HTL.out; omega) (by have := HTL.out; omega)) ?_; rintro _ W4 ⟨v, rfl, hown, hbel⟩; have HOW : Hid _ := hown; have HBE : Hid _ := hbel; clear hown hbel))
  go_ret2
  exact line_out HRD.out HK.out HOW.out HBE.out

end Go.Proofs.Qxb6612819aDoor
