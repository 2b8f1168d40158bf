/-
  'Rows.FnMatchPatternAgreesWithModelSaid', PROVED: matchPattern and zzGlobModel both answer 'Pl.M pattern value'.
-/
import Derived.Test.Qxb6606156aRows
import Derived.Test.Qxb6606156aGlob
import Derived.Test.Qxb6606156aMatch
import Derived.WalkKit
import Derived.WalkSpells
import Derived.WalkLawsBesides
import Derived.ProofKit
import Derived.OpenShut
import Derived.ShutString
import Derived.HandedShaped
namespace Go.Proofs.Qxb6606156a.fnMatchPatternAgreesWithModel
open Go.ChangeShapes Go.WideShapes Go.ChangeAt Go.RowKit
open Go.ChangeMaps (open_string shut_string)
set_option linter.unusedVariables false

theorem own : ownKnob Try.prog.godebug = none := by kernel_rfl

theorem bytes_yes (p v : ByteArray) (w : World) (h : p.size + v.size ≤ 1048576) :
    Calls Try.prog 6 #[.string p, .string v] w fun e w' => e = .returned (.bool true) ∧ w' = w := by
  go_enter Try.func6, Try.ntmps6
  go_wp2
  go_ret
  exact ⟨rfl, rfl⟩

theorem bytes_no (p v : ByteArray) (w : World) (h : ¬ p.size + v.size ≤ 1048576) (hp : p.size ≤ 9223372036854775807) (hv : v.size ≤ 9223372036854775807) :
    Calls Try.prog 6 #[.string p, .string v] w fun e w' => e = .returned (.bool false) ∧ w' = w := by
  by_cases h1 : p.size ≤ 1048576
  · by_cases h2 : v.size ≤ 1048576
    · go_enter Try.func6, Try.ntmps6
      go_wp2
      go_ret
      exact ⟨rfl, rfl⟩
    · go_enter Try.func6, Try.ntmps6
      go_wp2
      go_ret
      exact ⟨rfl, rfl⟩
  · go_enter Try.func6, Try.ntmps6
    go_wp2
    go_ret
    exact ⟨rfl, rfl⟩

theorem walk (p v : ByteArray) (w0 : p.size ≤ maxLen) (w1 : v.size ≤ maxLen) (m : Int) (w : World) (hm : w.cell? ⟨0, 0, none⟩ = some (.int .i64 m)) :
    Calls Try.prog 3 #[.string p, .string v] w fun e w' => e = .returned (.bool true) ∧ Below w.heap.size w w' := by
  unfold maxLen at w0 w1
  by_cases hb : p.size + v.size ≤ 1048576
  · by_cases h1 : p.size ≤ 4096
    · by_cases h2 : v.size ≤ 4096
      · go_enter Try.func3, Try.ntmps3
        go_wp2_with (first | (go_at_call 6; refine (bytes_yes _ _ _ hb).mono ?_; rintro e w' ⟨rfl, rfl⟩) | (go_at_call 7; refine (zzmatch_any _ _ m _ (by omega) (by omega) hm).mono ?_; rintro e w' ⟨rfl, n, rfl⟩) | (go_at_call 8; refine (glob_any _ _ _ h1 h2).mono ?_; rintro e w' ⟨rfl, hbel⟩))
        go_ret
        exact ⟨rfl, (below_drewN (Below.refl _ _) n).trans hbel⟩
      · go_enter Try.func3, Try.ntmps3
        go_wp2_with (go_at_call 6; refine (bytes_yes _ _ _ hb).mono ?_; rintro e w' ⟨rfl, rfl⟩)
        go_ret
        exact ⟨rfl, Below.refl _ _⟩
    · go_enter Try.func3, Try.ntmps3
      go_wp2_with (go_at_call 6; refine (bytes_yes _ _ _ hb).mono ?_; rintro e w' ⟨rfl, rfl⟩)
      go_ret
      exact ⟨rfl, Below.refl _ _⟩
  · go_enter Try.func3, Try.ntmps3
    go_wp2_with (go_at_call 6; refine (bytes_no _ _ _ hb w0 w1).mono ?_; rintro e w' ⟨rfl, rfl⟩)
    go_ret
    exact ⟨rfl, Below.refl _ _⟩

set_option maxRecDepth 100000 in
theorem lifted (os : Os) (started : os.Started) (H : Type) (enc : TypeId × Value → H) :
    ReturnsInHanded {} Try.checked os 3 .any (Rows.fnMatchPatternAgreesWithModelSpec.pre6 enc Try.prog Try.f3 Rows.fnMatchPatternAgreesWithModelRow.domain false) (Rows.fnMatchPatternAgreesWithModelSpec.post enc Try.prog Try.f3 false true false false) := by
  refine returnsInHanded_of_change_shaped (C := Try.checked) own started (by kernel_rfl) Try.func3
    (ChangeSpec.witness6 (enc := enc) (C := Try.checked) false ⟨#[], #[.string ByteArray.empty, .string ByteArray.empty], []⟩ 8 (by kernel_rfl) (by kernel_rfl) (by kernel_rfl) (by kernel_rfl)) ?_
  intro W base args ds gs before hval0 hW hcnd _ hsh _
  have hval : ∀ (j : Nat) t v, Try.f3.params[j]? = some t → args[j]? = some v → Value.okWide Try.prog W .any base t v := hval0
  have hW' := hW
  obtain ⟨p, q, hA0, hV, rfl, hfz, hnd⟩ := hW
  have hA : DataW.TrodAll enc Try.prog W 0 (fun _ => true) true Try.f3.params.toList args.toList ds p := hA0
  rw [Try.params3] at hA hval
  obtain ⟨v0, vs0, d0, ds0, p0, q0, hargs, rfl, rfl, h0, r0⟩ := trodAll_cons hA
  obtain ⟨v1, vs1, d1, ds1, p1, q1, rfl, rfl, rfl, h1, r1⟩ := trodAll_cons r0
  obtain ⟨rfl, rfl, rfl⟩ := trodAll_nil r1
  obtain rfl : args = #[v0, v1] := by cases args; simp_all
  obtain ⟨rfl, rfl⟩ := trodVars_none hV
  obtain ⟨a0, rfl, rfl, rfl, w0⟩ := open_string Try.underlying9 (hval 0 9 v0 rfl rfl) h0
  obtain ⟨a1, rfl, rfl, rfl, w1⟩ := open_string Try.underlying9 (hval 1 9 v1 rfl rfl) h1
  clear hA0 hval0
  obtain ⟨m, hm⟩ := Try.laysM145.s1_3 W hsh
  refine (walk a0 a1 w0 w1 m W hm).mono fun e W' ⟨he, bel⟩ => ?_
  subst he
  exact ⟨_, rfl, _, _, _, [], _, [], hW', trodAll_mk1 (shut_bool Try.underlying4 _), (trodAll_cons_mk (shut_string Try.underlying9 w0) (trodAll_cons_mk (shut_string Try.underlying9 w1) trodAll_mk0)), rfl, bel.frame _, fun h => by cases h⟩

theorem over : Rows.fnMatchPatternAgreesWithModelRow.holds Try.pinned (OpenSpec.ofChange Rows.fnMatchPatternAgreesWithModelSpec) :=
  OpenClaim.holds_of_wide 3 Try.f3 rfl rfl rfl rfl rfl rfl rfl ⟨rfl, rfl, rfl, rfl, rfl⟩ rfl rfl rfl rfl rfl (by kernel_rfl) Try.func3 (by kernel_rfl)
    (of_decide_eq_true (by kernel_rfl)) (by unfold Func.isWrapper; first | (rw [if_pos (by decide +kernel)]; kernel_rfl) | (rw [if_neg (by decide +kernel)]; exact ⟨rfl, rfl⟩))
    (fun os started H enc _ => lifted os started H enc)

/-- THE STATEMENT -/
theorem proved : Rows.FnMatchPatternAgreesWithModelSaid :=
  over
end Go.Proofs.Qxb6606156a.fnMatchPatternAgreesWithModel
