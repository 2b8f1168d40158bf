/-
  'Rows.FnIsURIByteAcceptsExactly84BytesSaid', PROVED. (The frame is the seat's shell; the walk is ours.)
-/
import Derived.Test.Qxb6609321aRows
import Derived.Test.Qxb6609321aShelf
import Derived.WalkSpells
import Derived.WalkLawsBesides
import Derived.WalkKit
import Derived.ProofKit
import Derived.OpenShut
import Derived.ShutString
namespace Go.Proofs.Qxb6609321a.fnIsURIByteAcceptsExactly84Bytes
open Go.ChangeShapes Go.WideShapes Go.ChangeAt Go.RowKit
open Go.ChangeMaps (open_string shut_string)
set_option linter.unusedVariables false      -- a walk need not use every 'w<i>' (that an integer argument fits its kind)

theorem own : ownKnob Try.prog.godebug = none := by kernel_rfl

/-! ### THE PLAIN LAW -/
def alphaB (c : Nat) : Bool := (decide (97 ≤ c) && decide (c ≤ 122)) || (decide (65 ≤ c) && decide (c ≤ 90))
def digitB (c : Nat) : Bool := decide (48 ≤ c) && decide (c ≤ 57)
def marks : List UInt8 := [45, 46, 95, 126, 58, 47, 63, 35, 91, 93, 64, 33, 36, 38, 39, 40, 41, 42, 43, 44, 59, 61]
def uriB (c : Nat) : Bool := alphaB c || digitB c || decide (0 ≤ Lib.indexByte marks c.toUInt8)
def cnt : Nat → Nat
  | 0 => 0
  | k + 1 => cnt k + (if uriB k then 1 else 0)
theorem cnt_256 : cnt 256 = 84 := by decide +kernel
theorem cnt_le : ∀ k, cnt k ≤ k
  | 0 => Nat.le_refl _
  | k + 1 => by have := cnt_le k; unfold cnt; split <;> omega
theorem uri_37 : uriB 37 = false := by decide +kernel
theorem uri_32 : uriB 32 = false := by decide +kernel

/-! ### THE WALK -/
theorem alpha_any (c : Nat) (w : World) : Calls Try.prog 8 #[.int .u8 c] w fun e w' => e = .returned (.bool (alphaB c)) ∧ w' = w := by
  unfold alphaB
  by_cases h1 : 97 ≤ c
  · by_cases h2 : c ≤ 122
    · simp only [h1, h2, decide_true, Bool.true_and, Bool.true_or]
      go_enter Try.func8, Try.ntmps8
      go_wp2
      go_ret
      exact ⟨congrArg (fun b => Ending.returned (.bool b)) (by first | rfl | (simp; omega)), rfl⟩
    · have h3 : 65 ≤ c := by omega
      have h4 : ¬ c ≤ 90 := by omega
      simp only [h1, h2, h3, h4, decide_true, decide_false, Bool.and_false, Bool.or_false]
      go_enter Try.func8, Try.ntmps8
      go_wp2
      go_ret
      exact ⟨congrArg (fun b => Ending.returned (.bool b)) (by first | rfl | (simp; omega)), rfl⟩
  · by_cases h3 : 65 ≤ c
    · by_cases h4 : c ≤ 90
      · simp only [h1, h3, h4, decide_true, decide_false, Bool.false_and, Bool.true_and, Bool.false_or]
        go_enter Try.func8, Try.ntmps8
        go_wp2
        go_ret
        exact ⟨congrArg (fun b => Ending.returned (.bool b)) (by first | rfl | (simp; omega)), rfl⟩
      · simp only [h1, h3, h4, decide_true, decide_false, Bool.false_and, Bool.and_false, Bool.false_or]
        go_enter Try.func8, Try.ntmps8
        go_wp2
        go_ret
        exact ⟨congrArg (fun b => Ending.returned (.bool b)) (by first | rfl | (simp; omega)), rfl⟩
    · simp only [h1, h3, decide_false, Bool.false_and, Bool.false_or]
      go_enter Try.func8, Try.ntmps8
      go_wp2
      go_ret
      exact ⟨congrArg (fun b => Ending.returned (.bool b)) (by first | rfl | (simp; omega)), rfl⟩
theorem digit_any (c : Nat) (w : World) : Calls Try.prog 9 #[.int .u8 c] w fun e w' => e = .returned (.bool (digitB c)) ∧ w' = w := by
  unfold digitB
  by_cases h1 : 48 ≤ c
  · by_cases h2 : c ≤ 57
    · simp only [h1, h2, decide_true, Bool.true_and]
      go_enter Try.func9, Try.ntmps9
      go_wp2
      go_ret
      exact ⟨congrArg (fun b => Ending.returned (.bool b)) (by first | rfl | (simp; omega)), rfl⟩
    · simp only [h1, h2, decide_true, decide_false, Bool.and_false]
      go_enter Try.func9, Try.ntmps9
      go_wp2
      go_ret
      exact ⟨congrArg (fun b => Ending.returned (.bool b)) (by first | rfl | (simp; omega)), rfl⟩
  · simp only [h1, decide_false, Bool.false_and]
    go_enter Try.func9, Try.ntmps9
    go_wp2
    go_ret
    exact ⟨congrArg (fun b => Ending.returned (.bool b)) (by first | rfl | (simp; omega)), rfl⟩
theorem mark_any (c : Nat) (w : World) :
    Calls Try.prog 10 #[.string ⟨#[45, 46, 95, 126, 58, 47, 63, 35, 91, 93, 64, 33, 36, 38, 39, 40, 41, 42, 43, 44, 59, 61]⟩, .int .u8 c] w fun e w' => e = .returned (.int .i64 (Lib.indexByte marks c.toUInt8)) ∧ w' = w := by
  refine (Try.strings_IndexByte _ (c : Int) w).mono ?_
  rintro e w' ⟨rfl, rfl⟩
  exact ⟨rfl, rfl⟩

theorem alpha_c (c : Nat) (b : Bool) (h : Hid (alphaB c = b)) (w : World) : Calls Try.prog 8 #[.int .u8 c] w fun e w' => e = .returned (.bool b) ∧ w' = w := by
  have := alpha_any c w
  rw [h.out] at this
  exact this
theorem digit_c (c : Nat) (b : Bool) (h : Hid (digitB c = b)) (w : World) : Calls Try.prog 9 #[.int .u8 c] w fun e w' => e = .returned (.bool b) ∧ w' = w := by
  have := digit_any c w
  rw [h.out] at this
  exact this

theorem uri7_any (c : Nat) (w : World) : Calls Try.prog 7 #[.int .u8 c] w fun e w' => e = .returned (.bool (uriB c)) ∧ w' = w := by
  cases ha : alphaB c
  · have HA : Hid (alphaB c = false) := ha
    cases hd : digitB c
    · have HD : Hid (digitB c = false) := hd
      have HE : Hid (uriB c = decide (0 ≤ Lib.indexByte marks c.toUInt8)) := by show _ = _; unfold uriB; rw [ha, hd]; rfl
      clear ha hd
      go_enter Try.func7, Try.ntmps7
      go_wp2_with (first | (go_at_call 8; refine (alpha_c c false HA _).mono ?_; rintro e w' ⟨rfl, rfl⟩) | (go_at_call 9; refine (digit_c c false HD _).mono ?_; rintro e w' ⟨rfl, rfl⟩) | (go_at_call 10; refine (mark_any c _).mono ?_; rintro e w' ⟨rfl, rfl⟩))
      go_ret
      exact ⟨congrArg (fun b => Ending.returned (.bool b)) HE.out.symm, rfl⟩
    · have HD : Hid (digitB c = true) := hd
      have HE : Hid (uriB c = true) := by show _ = _; unfold uriB; rw [ha, hd]; rfl
      clear ha hd
      go_enter Try.func7, Try.ntmps7
      go_wp2_with (first | (go_at_call 8; refine (alpha_c c false HA _).mono ?_; rintro e w' ⟨rfl, rfl⟩) | (go_at_call 9; refine (digit_c c true HD _).mono ?_; rintro e w' ⟨rfl, rfl⟩))
      go_ret
      exact ⟨congrArg (fun b => Ending.returned (.bool b)) HE.out.symm, rfl⟩
  · have HA : Hid (alphaB c = true) := ha
    have HE : Hid (uriB c = true) := by show _ = _; unfold uriB; rw [ha]; rfl
    clear ha
    go_enter Try.func7, Try.ntmps7
    go_wp2_with (go_at_call 8; refine (alpha_c c true HA _).mono ?_; rintro e w' ⟨rfl, rfl⟩)
    go_ret
    exact ⟨congrArg (fun b => Ending.returned (.bool b)) HE.out.symm, rfl⟩
theorem uri_any (c : Nat) (w : World) : Calls Try.prog 5 #[.int .u8 c] w fun e w' => e = .returned (.bool (uriB c)) ∧ w' = w := by
  go_enter Try.func5, Try.ntmps5
  go_wp2_with (go_at_call 7; refine (uri7_any c _).mono ?_; rintro e w' ⟨rfl, rfl⟩)
  go_ret
  exact ⟨rfl, rfl⟩

theorem uri_c (c : Nat) (b : Bool) (h : Hid (uriB c = b)) (w : World) : Calls Try.prog 5 #[.int .u8 c] w fun e w' => e = .returned (.bool b) ∧ w' = w := by
  have := uri_any c w
  rw [h.out] at this
  exact this
theorem uri_c37 (w : World) : Calls Try.prog 5 #[.int .u8 37] w fun e w' => e = .returned (.bool false) ∧ w' = w := uri_c 37 false uri_37 w
theorem uri_c32 (w : World) : Calls Try.prog 5 #[.int .u8 32] w fun e w' => e = .returned (.bool false) ∧ w' = w := uri_c 32 false uri_32 w

set_option maxRecDepth 10000 in
set_option maxHeartbeats 400000 in
theorem walk  (w : World) :
    Calls Try.prog 4 #[] w fun e w' => e = .returned (.bool true) ∧ Grown w w' := by
  go_enter Try.func4, Try.ntmps4
  go_wp2
  go_loop [1, 2] (fun s1 s2 => ∃ k n : Nat, k ≤ 256 ∧ n ≤ k ∧ s2 = .int .i64 k ∧ s1 = .int .i64 n ∧ Hid (cnt k = n)) (fun _ s2 => 256 - (intOf s2).toNat)
  case atStart => exact ⟨0, 0, by omega, by omega, rfl, rfl, rfl⟩
  case round =>
    obtain ⟨k, n, hk, hnk, rfl, rfl, HC⟩ := hrel
    by_cases hlt : k < 256
    · cases hu : uriB k
      · have HU : Hid (uriB k = false) := hu
        have HN : Hid (cnt (k + 1) = n) := by show _ = _; unfold cnt; rw [hu, HC.out]; rfl
        clear hu
        go_wp2_with fail
        refine (uri_c k false HU _).mono ?_
        rintro e w' ⟨rfl, rfl⟩
        go_wp2
        go_round
        case rel => exact ⟨k + 1, n, by omega, by omega, by go_num, rfl, HN⟩
        case measure => simp [intOf]; omega
      · have HU : Hid (uriB k = true) := hu
        have HN : Hid (cnt (k + 1) = n + 1) := by show _ = _; unfold cnt; rw [hu, HC.out]; rfl
        clear hu
        go_wp2_with fail
        refine (uri_c k true HU _).mono ?_
        rintro e w' ⟨rfl, rfl⟩
        go_wp2
        go_round
        case rel => exact ⟨k + 1, n + 1, by omega, by omega, by go_num, by go_num, HN⟩
        case measure => simp [intOf]; omega
    · obtain rfl : k = 256 := by omega
      obtain rfl : n = 84 := by rw [← HC.out]; exact cnt_256
      clear HC
      go_wp2_with fail
      refine (uri_c37 _).mono ?_
      rintro e w' ⟨rfl, rfl⟩
      go_wp2_with fail
      refine (uri_c32 _).mono ?_
      rintro e w' ⟨rfl, rfl⟩
      go_wp2
      go_ret
      exact ⟨rfl, Grown.refl _⟩

/-! ### THE ROW's STEP: WRITTEN OUT: LEAVE IT -/
set_option maxRecDepth 100000 in
theorem lifted (os : Os) (started : os.Started) (H : Type) (enc : TypeId × Value → H) :
    ReturnsInHanded {} Try.checked os 4 .any (Rows.fnIsURIByteAcceptsExactly84BytesSpec.pre6 enc Try.prog Try.f4 Rows.fnIsURIByteAcceptsExactly84BytesRow.domain false) (Rows.fnIsURIByteAcceptsExactly84BytesSpec.post enc Try.prog Try.f4 false true false false) := by
  refine returnsInHanded_of_change (C := Try.checked) own started (by kernel_rfl) Try.func4
    (ChangeSpec.witness6 (enc := enc) (C := Try.checked) false ⟨#[], #[], []⟩ 8 (by kernel_rfl) (by kernel_rfl) (by kernel_rfl) (by kernel_rfl)) ?_
  intro W base args ds gs before hval0 hW hcnd _
  have hval : ∀ (j : Nat) t v, Try.f4.params[j]? = some t → args[j]? = some v → Value.okWide Try.prog W .any base t v := hval0
  have hW' := hW
  obtain ⟨p, q, hA0, hV, rfl, hfz, hnd⟩ := hW
  have hA : DataW.TrodAll enc Try.prog W 0 (fun _ => true) true Try.f4.params.toList args.toList ds p := hA0
  rw [Try.params4] at hA hval
  obtain ⟨rfl, rfl, rfl⟩ := trodAll_none hA
  obtain ⟨rfl, rfl⟩ := trodVars_none hV
  clear hA0 hval0
  simp only [List.append_nil] at hW'
  refine (walk  W).mono fun e W' ⟨he, hg⟩ => ?_
  subst he
  exact ⟨_, rfl, post_of_same (pa := []) (pv := []) hW' (fun _ _ _ => (trodAll_cons_mk (shut_bool Try.underlying4 _) trodAll_mk0)) (fun sp _ => rfl) (fun _ _ => rfl) rfl
    (hg.frame _) hg.2.1 (ok_one (by kernel_rfl) rfl (okWide_bool_mk Try.underlying4 _))⟩

theorem over : Rows.fnIsURIByteAcceptsExactly84BytesRow.holds Try.pinned (OpenSpec.ofChange Rows.fnIsURIByteAcceptsExactly84BytesSpec) :=
  OpenClaim.holds_of_wide 4 Try.f4 rfl rfl rfl rfl rfl rfl rfl ⟨rfl, rfl, rfl, rfl, rfl⟩ rfl rfl rfl rfl rfl (by kernel_rfl) Try.func4 (by kernel_rfl)
    (of_decide_eq_true (by kernel_rfl)) (by unfold Func.isWrapper; first | (rw [if_pos (by decide +kernel)]; kernel_rfl) | (rw [if_neg (by decide +kernel)]; exact ⟨rfl, rfl⟩))
    (fun os started H enc _ => lifted os started H enc)

/-- THE STATEMENT -/
theorem proved : Rows.FnIsURIByteAcceptsExactly84BytesSaid :=
  over
end Go.Proofs.Qxb6609321a.fnIsURIByteAcceptsExactly84Bytes
