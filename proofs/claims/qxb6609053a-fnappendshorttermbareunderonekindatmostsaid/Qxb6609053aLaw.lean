/-
  FnAppendShortTermBareUnderOneKindAtMost (6): it returns true.
-/
import Derived.Test.Qxb6609053aHits
namespace Go.Proofs.Qxb6609053a
open Go.RowKit

/-- 'append(bare, value...)', bare the call's own clone. -/
theorem run_bare (w : World) (ao : Option Addr) (xs : List Int) (ty : TypeId) (s : ByteArray) (ht : Tight w ao (xs.map iv)) (hn : xs.length + s.size ≤ 1048576) :
    ∃ v' w', (Builtin.append_ #[24, 9] ty #[.slice ao xs.length xs.length, .string s]).run Try.prog w = .ok v' w' ∧ (∃ ab cb, v' = .slice ab (xs.length + s.size) cb ∧ Rd w' ab (xs ++ valN s)) ∧ Below w.heap.size w w' := by
  by_cases h0 : 0 < s.size
  · obtain ⟨v', w', h1, h2, h3⟩ := run_tight_str w.heap.size w w ao (xs.map iv) ty s (Below.refl _ _) (Nat.le_refl _) ht h0 (by rw [List.length_map]; omega)
    rw [List.length_map] at h1 h3
    obtain ⟨g, cap, rfl, _, hg⟩ := h3.form (by omega)
    rw [valN_cells, ← List.map_append] at h3
    have h4 : w'.ownsRow w.heap.size 5 1 (.slice (some ⟨g, 0, none⟩) (xs.length + s.size) cap) (xs.length + s.size) ((xs ++ valN s).map iv ++ []) := by rw [List.append_nil]; exact h3
    exact ⟨_, w', h1, ⟨_, _, rfl, Rd_own h4 hg⟩, h2.row.below⟩
  · have hs : s.size = 0 := by omega
    have hv : valN s = [] := List.eq_nil_of_length_eq_zero (by rw [valN_length]; exact hs)
    obtain ⟨i0, hi, hz0, hz1, hz2⟩ := info_parts Try.info5
    have hf := Lib.run_firstCells_string (P := Try.prog) w 1 s
    rw [hs] at hf
    have hc : Lib.strCells s = [] := List.eq_nil_of_length_eq_zero (by rw [Lib.strCells_length]; exact hs)
    rw [hc] at hf
    refine ⟨.slice ao xs.length xs.length, w, ?_, ⟨ao, xs.length, by rw [hs]; rfl, by rw [hv, List.append_nil]; exact ht.rd⟩, Below.refl _ _⟩
    cases ao with
    | none =>
      have hx : xs = [] := by
        rcases ht with ⟨_, h⟩ | ⟨g, h, _⟩
        · exact List.map_eq_nil_iff.1 h
        · cases h
      subst hx
      simp [Builtin.append_, run_underlying Try.underlying24, run_underlying Try.underlying9, sizeOf, typeInfo, hi, hz1, Builtin.lenOf, hs, hf]
    | some a =>
      simp [Builtin.append_, run_underlying Try.underlying24, run_underlying Try.underlying9, sizeOf, typeInfo, hi, hz1, Builtin.lenOf, hs, hf, storeCells]

theorem Tight.none_nil {w : World} {ao : Option Addr} {xs : List Int} (h : Tight w ao (xs.map iv)) : ao = none → xs = [] ∧ xs.length = 0 := by
  intro e
  rcases h with ⟨_, h2⟩ | ⟨g, h2, _⟩
  · have := List.map_eq_nil_iff.1 h2
    exact ⟨this, by rw [this]; rfl⟩
  · rw [e] at h2; cases h2

end Go.Proofs.Qxb6609053a
