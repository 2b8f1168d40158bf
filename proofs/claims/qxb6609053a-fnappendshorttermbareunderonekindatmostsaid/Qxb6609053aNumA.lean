/-
  zzNumberKind (12), no byte (HOW MADE: one text at several places, written out by a small program of the prover's).
-/
import Derived.Test.Qxb6609053aNum
namespace Go.Proofs.Qxb6609053a
open Go.RowKit

set_option maxHeartbeats 16000000 in
theorem num_empty (s : ByteArray) (w : World) (g0 : s.size = 0) :
    Calls Try.prog 12 #[.string s] w fun e w' => e = .returned (.string (dtS (Pl.numKindT (tl s)))) ∧ w' = w := by
  have ht : txt s = [] := List.eq_nil_of_length_eq_zero (by rw [txt_length]; exact g0)
  have HR : Hid (Pl.numKindT (tl s) = 0) := by show _ = _; unfold tl; rw [ht]; rfl
  have hz : s.extract 0 s.size = s := by
    apply ByteArray.ext
    apply Array.ext'
    have := txt_extract s 0
    unfold txt at this
    rw [this, List.drop_zero]
  clear ht
  go_enter Try.func12, Try.ntmps12
  go_wp2
  refine wp_loop_rounds 1 ?_
  rw [rounds_succ]
  go_wp2
  refine wp_loop_rounds 1 ?_
  rw [rounds_succ]
  go_wp2
  go_ret
  exact ⟨ret_dt HR.out rfl, rfl⟩

end Go.Proofs.Qxb6609053a
