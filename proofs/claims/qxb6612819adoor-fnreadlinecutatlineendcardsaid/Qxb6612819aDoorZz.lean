/-
  ZZreadLine (9): readLine in one contract.
-/
import Derived.Test.Qxb6612819aDoorLong
namespace Go.Proofs.Qxb6612819aDoor
open Go.RowKit

/-- What the line model says of the line at p that is L bytes long. -/
def want (ds : List Int) (C p L : Nat) : List Int := if C ≤ L then (ds.drop p).take C else (ds.drop p).take (trimLen ds p L 13)

theorem read_line (C B U R : Nat) (sa : Option Addr) (ds : List Int) (p k0 r0 L : Nat) (ea fa : Addr) (W : World) (hC : C = 10000) (hb : Bytes ds) (E : Env W B U R sa ds ea fa) (F : Errs W B U R ea fa) (h : Rd W C B U R sa ds p k0 r0 .nilIface) (hL : IsLine ds p L) (hp : p < ds.length) :
    Calls Tryd.prog 17 #[.pointer (some ⟨B, 0, none⟩)] W (LineOut C B U R sa ds (nextPos ds p L) (want ds C p L) W) := by
  unfold want
  by_cases hl : C ≤ L
  · rw [if_pos hl]
    exact line_long C B U R sa ds p k0 r0 L ea fa W hC hb E F h hL hl
  · rw [if_neg hl]
    unfold nextPos
    by_cases hn : p + L < ds.length
    · rw [if_pos hn]
      exact line_lf C B U R sa ds p k0 r0 L _ ea fa W (by omega) (by omega) hb E F h hL (by omega) hn rfl
    · rw [if_neg hn]
      have := hL.le
      exact line_eof C B U R sa ds p k0 r0 L _ ea fa W (by omega) (by omega) hb E F h hL (by omega) (by omega) (by omega) rfl

theorem zz_line (C B U R : Nat) (sa : Option Addr) (ds : List Int) (p k0 r0 L : Nat) (ea fa : Addr) (W : World) (hC : C = 10000) (hb : Bytes ds) (E : Env W B U R sa ds ea fa) (F : Errs W B U R ea fa) (h : Rd W C B U R sa ds p k0 r0 .nilIface) (hL : IsLine ds p L) (hp : p < ds.length) :
    Calls Tryd.prog 9 #[.pointer (some ⟨B, 0, none⟩)] W (LineOut C B U R sa ds (nextPos ds p L) (want ds C p L) W) := by
  have HS : Hid (Calls Tryd.prog 17 #[.pointer (some ⟨B, 0, none⟩)] W (LineOut C B U R sa ds (nextPos ds p L) (want ds C p L) W)) := read_line C B U R sa ds p k0 r0 L ea fa W hC hb E F h hL hp
  clear hC E F h hL hp
  go_enter Tryd.func9, Tryd.ntmps9
  go_wp2_with ((go_at_call 17; refine Calls.mono HS.out ?_; rintro _ W1 ⟨v, b, k, r, rfl, hrest⟩; have HR : Hid _ := hrest; clear hrest))
  go_ret2
  exact ⟨v, b, k, r, rfl, HR.out⟩
theorem zz_end (C B U R : Nat) (sa : Option Addr) (ds : List Int) (p k0 r0 : Nat) (ea fa : Addr) (W : World) (hC : C = 10000) (hb : Bytes ds) (E : Env W B U R sa ds ea fa) (F : Errs W B U R ea fa) (h : Rd W C B U R sa ds p k0 r0 .nilIface) (hp : p = ds.length) :
    Calls Tryd.prog 9 #[.pointer (some ⟨B, 0, none⟩)] W fun e W' => e = .returned (.tuple #[.slice none 0 0, .iface 65 (.pointer (some ea))]) ∧ Keep (Three B U R) W W' := by
  have HS : Hid (Calls Tryd.prog 17 #[.pointer (some ⟨B, 0, none⟩)] W fun e W' => e = .returned (.tuple #[.slice none 0 0, .iface 65 (.pointer (some ea))]) ∧ Keep (Three B U R) W W') := line_end C B U R sa ds p k0 r0 ea fa W (by omega) (by omega) hb E F h hp
  clear hC E F h hp
  go_enter Tryd.func9, Tryd.ntmps9
  go_wp2_with ((go_at_call 17; refine Calls.mono HS.out ?_; rintro _ W1 ⟨rfl, hk⟩; have HR : Hid _ := hk; clear hk))
  go_ret2
  exact ⟨rfl, HR.out⟩
end Go.Proofs.Qxb6612819aDoor
