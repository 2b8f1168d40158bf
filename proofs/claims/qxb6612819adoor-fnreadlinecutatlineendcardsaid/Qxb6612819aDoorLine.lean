/-
  readLine (17).
-/
import Derived.Test.Qxb6612819aDoorLine0
namespace Go.Proofs.Qxb6612819aDoor
open Go.RowKit

set_option maxRecDepth 20000 in
set_option maxHeartbeats 4000000 in
theorem line_end (C B U R : Nat) (sa : Option Addr) (ds : List Int) (p k0 r0 : Nat) (ea fa : Addr) (W : World) (hC : C ≤ 10000) (hC0 : 0 < C) (hb : Bytes ds) (E : Env W B U R sa ds ea fa) (F : Errs W B U R ea fa) (h : Rd W C B U R sa ds p k0 r0 .nilIface) (hp : p = ds.length) :
    Calls Tryd.prog 17 #[.pointer (some ⟨B, 0, none⟩)] W fun e W' => e = .returned (.tuple #[.slice none 0 0, .iface 65 (.pointer (some ea))]) ∧ Keep (Three B U R) W W' := by
  have hL : IsLine ds p 0 := ⟨fun j hj => absurd hj (Nat.not_lt_zero _), by omega, .inl (by omega)⟩
  have HS : Hid (Calls Tryd.prog 20 #[.pointer (some ⟨B, 0, none⟩), .int .u8 10] W (SliceAt C B U R sa ds p 0 (.iface 65 (.pointer (some ea))) W)) := slice_eof C B U R sa ds p k0 r0 0 ea fa W hC hC0 hb E h hL hC0 (by omega)
  have HE : Hid (Env W B U R sa ds ea fa) := E
  have HF : Hid (Errs W B U R ea fa) := F
  have es := eql_same
  clear E F h hL hp
  go_enter Tryd.func17, Tryd.ntmps17
  go_wp2_with ((go_at_call 20; refine Calls.mono HS.out ?_; rintro _ W1 ⟨r, c, k2, r2, rfl, hmc, hcC, hrd, hkp, hln⟩; have g0 := (HE.out.keep hkp).full; have g1 := (HE.out.keep hkp).eof; have eo := eql_other HF.out.ne (HF.out.keep hkp).e1 (HF.out.keep hkp).f1; have HK : Hid _ := hkp; clear hkp hln hrd))
  all_goals
    go_ret2
    exact ⟨rfl, HK.out⟩
end Go.Proofs.Qxb6612819aDoor
