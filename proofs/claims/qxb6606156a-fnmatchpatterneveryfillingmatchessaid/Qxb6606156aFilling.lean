/-
  'Rows.FnMatchPatternEveryFillingMatchesSaid', PROVED: what zzFill writes matches the pattern (Pl.fill_matches).
-/
import Derived.Test.Qxb6606156aRows
import Derived.Test.Qxb6606156aMatch
import Derived.Test.Qxb6606156aFill
import Derived.WalkKit
import Derived.WalkSpells
import Derived.WalkLawsBesides
import Derived.ProofKit
import Derived.OpenShut
import Derived.ShutString
import Derived.SliceStrings
import Derived.HandedShaped
namespace Go.Proofs.Qxb6606156a.fnMatchPatternEveryFillingMatches
open Go.ChangeShapes Go.WideShapes Go.ChangeAt Go.RowKit Fl
open Go.ChangeMaps (open_string shut_string)
set_option linter.unusedVariables false

theorem own : ownKnob Try.prog.godebug = none := by kernel_rfl
theorem laidOut : laidOutB Try.prog = true := by kernel_rfl

theorem fillT_matches (p : ByteArray) (ss : List ByteArray) : Pl.M p.data.toList (fillT p ss) = true := Pl.fill_matches _ _

set_option maxHeartbeats 400000 in
theorem walk (p : ByteArray) (a : Option Addr) (len cap : Nat) (ss : List ByteArray) (m : Int) (w : World) (hp : p.size ≤ 9223372036854775807) (hl : len ≤ 9223372036854775807) (hz : ∀ s ∈ ss, s.size ≤ 9223372036854775807)
    (hlen : ss.length = len) (hs : IsStrs w a ss) (hm : w.cell? ⟨0, 0, none⟩ = some (.int .i64 m)) (h0 : 0 < w.heap.size) :
    Calls Try.prog 4 #[.string p, .slice a len cap] w fun e w' => e = .returned (.bool true) ∧ Below w.heap.size w w' := by
  go_enter Try.func4, Try.ntmps4
  go_wp2_with fail
  refine (bytes_any p a len cap ss _ hlen hs hp hl hz).mono ?_
  rintro e w' ⟨hr, rfl⟩
  obtain ⟨r, rfl⟩ := hr
  cases r
  · go_wp2
    go_ret
    exact ⟨rfl, Below.refl _ _⟩
  · by_cases h1 : p.size ≤ 65536
    · by_cases h2 : len ≤ 65536
      · go_wp2_with fail
        by_cases hbig : (1048576 : Int) < 16 * (len : Int)
        · refine (add_big _ _ _ (.inl hbig)).mono ?_
          rintro e w' ⟨rfl, rfl⟩
          go_wp2_with fail
          refine (strings_any _ a len cap ss _ hlen hs (by omega) (by omega) h2).mono ?_
          rintro e w' ⟨⟨z, rfl, hz0, hz1⟩, rfl⟩
          have hz2 : 1048576 < z := by
            have h3 : ¬ z ≤ 1048576 := fun h => by have := hz1 h; omega
            omega
          clear hz1
          go_wp2
          go_ret
          exact ⟨rfl, Below.refl _ _⟩
        · refine (add_small _ _ _ (by omega) (by omega) (by omega) (by omega)).mono ?_
          rintro e w' ⟨rfl, rfl⟩
          go_wp2_with fail
          refine (strings_any _ a len cap ss _ hlen hs (by omega) (by omega) h2).mono ?_
          rintro e w' ⟨⟨z, rfl, hz0, hz1⟩, rfl⟩
          by_cases hz2 : 1048576 < z
          · clear hz1
            go_wp2
            go_ret
            exact ⟨rfl, Below.refl _ _⟩
          · have hz3 := hz1 (by omega)
            obtain ⟨T, rfl⟩ : ∃ T : Nat, z = (T : Int) := ⟨z.toNat, by omega⟩
            have hT : p.size + sumSz ss ≤ T := by omega
            clear hz1 hz3
            go_wp2_with fail
            refine (fill_any p a len cap T ss _ hlen hs hT (by omega) h2).mono ?_
            rintro e w1 ⟨rfl, hfl, hb⟩
            have hm1 := (hb.cell (p := ⟨0, 0, none⟩) h0).trans hm
            go_wp2_with (go_at_call 7; refine (zzmatch_any _ _ m _ (by omega) (by show (fillT p ss).length ≤ _; omega) hm1).mono ?_; rintro e w2 ⟨rfl, n, rfl⟩)
            go_ret
            exact ⟨congrArg (fun b => Ending.returned (.bool b)) (fillT_matches p ss), below_drewN hb n⟩
      · go_wp2
        go_ret
        exact ⟨rfl, Below.refl _ _⟩
    · go_wp2
      go_ret
      exact ⟨rfl, Below.refl _ _⟩

theorem cells9 : Try.prog.cellsOf 9 = 1 := by kernel_rfl

set_option maxRecDepth 100000 in
theorem lifted (os : Os) (started : os.Started) (H : Type) (enc : TypeId × Value → H) :
    ReturnsInHanded {} Try.checked os 4 .any (Rows.fnMatchPatternEveryFillingMatchesSpec.pre6 enc Try.prog Try.f4 Rows.fnMatchPatternEveryFillingMatchesRow.domain false) (Rows.fnMatchPatternEveryFillingMatchesSpec.post enc Try.prog Try.f4 false true false false) := by
  refine returnsInHanded_of_change_shaped (C := Try.checked) own started (by kernel_rfl) Try.func4
    (ChangeSpec.witness6 (enc := enc) (C := Try.checked) false ⟨#[], #[.string ByteArray.empty, .slice none 0 0], []⟩ 8 (by kernel_rfl) (by kernel_rfl) (by kernel_rfl) (by kernel_rfl)) ?_
  intro W base args ds gs before hval0 hW hcnd _ hsh _
  have hval : ∀ (j : Nat) t v, Try.f4.params[j]? = some t → args[j]? = some v → Value.okWide Try.prog W .any base t v := hval0
  have hW' := hW
  obtain ⟨p, q, hA0, hV, rfl, hfz, hnd⟩ := hW
  have hA : DataW.TrodAll enc Try.prog W 0 (fun _ => true) true Try.f4.params.toList args.toList ds p := hA0
  rw [Try.params4] at hA hval
  obtain ⟨v0, vs0, d0, ds0, p0, q0, hargs, rfl, rfl, h0, r0⟩ := trodAll_cons hA
  obtain ⟨v1, vs1, d1, ds1, p1, q1, rfl, rfl, rfl, h1, r1⟩ := trodAll_cons r0
  obtain ⟨rfl, rfl, rfl⟩ := trodAll_nil r1
  obtain rfl : args = #[v0, v1] := by cases args; simp_all
  obtain ⟨rfl, rfl⟩ := trodVars_none hV
  obtain ⟨a0, rfl, rfl, rfl, w0⟩ := open_string Try.underlying9 (hval 0 9 v0 rfl rfl) h0
  obtain ⟨a1, len1, cap1, rfl⟩ := okWide_slice Try.underlying23 (hval 1 23 v1 rfl rfl)
  have k1 := h1
  have lt1 : ∀ x ∈ p1, x.block < W.heap.size := by obtain ⟨m, hm⟩ := k1; exact DataW.trod_lt m _ _ _ hm
  obtain ⟨ss, hlen, hl1, hz1, hs1⟩ : ∃ ss, ss.length = len1 ∧ len1 ≤ maxLen ∧ (∀ s ∈ ss, s.size ≤ maxLen) ∧ IsStrs W a1 ss := by
    obtain ⟨fuel, hf⟩ := h1
    rcases open_strings Try.underlying23 Try.underlying9 cells9 hf with ⟨hcs, _⟩ | ⟨x, l, c, ss, hcs, _, hl, hm, hz, hx, hcell, hwz⟩
    · simp [Value.cells] at hcs
      obtain ⟨rfl, rfl, rfl⟩ := hcs
      exact ⟨[], rfl, Nat.zero_le _, by simp, .inl rfl⟩
    · simp [Value.cells] at hcs
      obtain ⟨rfl, rfl, rfl⟩ := hcs
      simp only [if_true] at hz
      have hlt : (ss.take len1).length = len1 := by rw [List.length_take]; omega
      refine ⟨ss.take len1, hlt, Nat.le_trans hl hm, fun s h => hwz s (List.mem_of_mem_take h), ?_⟩
      by_cases hn : len1 = 0
      · exact .inl (by omega)
      · obtain ⟨b, off, spot⟩ := x
        have hspot : spot = none := by simpa [Addr.add] using World.cell?_spot (hcell 0 (by omega))
        subst hspot
        simp only [Prod.mk.injEq] at hx
        have hb : b < W.heap.size := by
          refine lt1 (.cell b off) ?_
          rw [hx.2]
          exact MemPlace.mem_row.2 ⟨0, by omega, by simp⟩
        refine .inr ⟨b, off, rfl, hb, fun k hk => ?_⟩
        rw [hlt] at hk
        rw [← add_plain, hcell k (by omega)]
        simp [List.getD_eq_getElem?_getD, hk]
  clear hA0 hval0
  obtain ⟨m, hm⟩ := Try.laysM145.s1_3 W hsh
  have hpos : 0 < W.heap.size := by
    refine Nat.pos_of_ne_zero fun h => ?_
    have hm' : W.cell? ⟨0, 0, none⟩ = some (.int .i64 m) := hm
    simp [World.cell?, h] at hm'
  refine (walk a0 a1 len1 cap1 ss m W w0 hl1 hz1 hlen hs1 hm hpos).mono fun e W' ⟨he, bel⟩ => ?_
  subst he
  exact ⟨_, rfl, _, _, _, [], _, [], hW', trodAll_mk1 (shut_bool Try.underlying4 _), (trodAll_cons_mk (shut_string Try.underlying9 w0) (trodAll_cons_mk (Below.trod laidOut (by kernel_rfl) (of_decide_eq_true (by kernel_rfl)) k1 bel lt1) trodAll_mk0)), rfl, bel.frame _, fun h => by cases h⟩

theorem over : Rows.fnMatchPatternEveryFillingMatchesRow.holds Try.pinned (OpenSpec.ofChange Rows.fnMatchPatternEveryFillingMatchesSpec) :=
  OpenClaim.holds_of_wide 4 Try.f4 rfl rfl rfl rfl rfl rfl rfl ⟨rfl, rfl, rfl, rfl, rfl⟩ rfl rfl rfl rfl rfl (by kernel_rfl) Try.func4 (by kernel_rfl)
    (of_decide_eq_true (by kernel_rfl)) (by unfold Func.isWrapper; first | (rw [if_pos (by decide +kernel)]; kernel_rfl) | (rw [if_neg (by decide +kernel)]; exact ⟨rfl, rfl⟩))
    (fun os started H enc _ => lifted os started H enc)

/-- THE STATEMENT -/
theorem proved : Rows.FnMatchPatternEveryFillingMatchesSaid :=
  over
end Go.Proofs.Qxb6606156a.fnMatchPatternEveryFillingMatches
