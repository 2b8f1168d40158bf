/-
  zzCloneBytes (11), zzDatatype (13), zzHasPrefix (15), zzEqualBytes (16), zzBytes.. (10).
-/
import Derived.Test.Qxb6609053aApp
import Derived.Test.Qxb6609053aScan2
import Derived.Lib.SliceRun
import Derived.Deep.QuietTactic
import Derived.BigQuiet
namespace Go.Proofs.Qxb6609053a
open Go.RowKit

/-- The bytes of a slice, as far as its length. -/
def Rd (w : World) (a : Option Addr) (xs : List Int) : Prop :=
  xs = [] ∨ ∃ b off, a = some ⟨b, off, none⟩ ∧ b < w.heap.size ∧ ∀ j, j < xs.length → w.cell? ⟨b, off + j, none⟩ = some (.int .u8 (xs.getD j 0))

theorem Rd.below {w w' : World} {a : Option Addr} {xs : List Int} {B : Nat} (h : Rd w a xs) (hb : Below B w w') (hB : w.heap.size ≤ B) : Rd w' a xs := by
  rcases h with h | ⟨b, off, h1, h2, h3⟩
  · exact .inl h
  · exact .inr ⟨b, off, h1, Nat.lt_of_lt_of_le h2 hb.size, fun j hj => (hb.cell (p := ⟨b, off + j, none⟩) (Nat.lt_of_lt_of_le h2 hB)).trans (h3 j hj)⟩

def iv (n : Int) : Value := .int .u8 n
theorem Tight.rd {w : World} {ao : Option Addr} {xs : List Int} (h : Tight w ao (xs.map iv)) : Rd w ao xs := by
  rcases h with ⟨_, h⟩ | ⟨g, h1, h2, h3⟩
  · exact .inl (List.map_eq_nil_iff.1 h)
  · refine .inr ⟨g, 0, h1, h2, fun j hj => ?_⟩
    rw [Nat.zero_add]
    refine h3 j _ ?_
    rw [List.getElem?_map, List.getElem?_eq_getElem hj, List.getD_eq_getElem?_getD, List.getElem?_eq_getElem hj]
    rfl

theorem dt_any (d : Nat) (hd : d ≤ 4) (w : World) : Calls Try.prog 13 #[.int .i64 d] w fun e w' => e = .returned (.string (dtS (d + 1))) ∧ w' = w := by
  have hc : d = 0 ∨ d = 1 ∨ d = 2 ∨ d = 3 ∨ d = 4 := by omega
  rcases hc with rfl | rfl | rfl | rfl | rfl
  all_goals
    go_enter Try.func13, Try.ntmps13
    go_wp2
    go_ret
    exact ⟨rfl, rfl⟩

set_option maxHeartbeats 400000 in
theorem bytes_any (a : Option Addr) (len cap : Nat) (v l : ByteArray) (w : World) (h1 : len ≤ 9223372036854775807) (h2 : v.size ≤ 9223372036854775807) (h3 : l.size ≤ 9223372036854775807) :
    Calls Try.prog 10 #[.slice a len cap, .string v, .string l] w fun e w' => (e = .returned (.bool true) ∨ e = .returned (.bool false)) ∧ w' = w := by
  by_cases c1 : len ≤ 1048576
  · by_cases c2 : v.size ≤ 1048576
    · by_cases c3 : len + v.size ≤ 1048576
      · by_cases c4 : l.size ≤ 1048576
        · by_cases c5 : len + v.size + l.size ≤ 1048576
          · go_enter Try.func10, Try.ntmps10
            go_wp2
            go_ret
            exact ⟨.inl rfl, rfl⟩
          · go_enter Try.func10, Try.ntmps10
            go_wp2
            go_ret
            exact ⟨.inr rfl, rfl⟩
        · go_enter Try.func10, Try.ntmps10
          go_wp2
          go_ret
          exact ⟨.inr rfl, rfl⟩
      · go_enter Try.func10, Try.ntmps10
        go_wp2
        go_ret
        exact ⟨.inr rfl, rfl⟩
    · go_enter Try.func10, Try.ntmps10
      go_wp2
      go_ret
      exact ⟨.inr rfl, rfl⟩
  · go_enter Try.func10, Try.ntmps10
    go_wp2
    go_ret
    exact ⟨.inr rfl, rfl⟩

set_option maxHeartbeats 400000 in
/-- zzHasPrefix where the prefix is there. -/
theorem pre_yes (a1 a2 : Option Addr) (n1 c1 c2 : Nat) (ps : List Int) (w : World) (h1 : Rd w a1 ps) (h2 : Rd w a2 ps) (hl : ps.length ≤ n1) (hx : ps.length ≤ 67108864) :
    Calls Try.prog 15 #[.slice a1 n1 c1, .slice a2 ps.length c2] w fun e w' => e = .returned (.bool true) ∧ ∃ q, w' = w.drewN q := by
  go_enter Try.func15, Try.ntmps15
  go_wp2
  go_loopw [5] (fun s5 wr => ∃ k q : Nat, k ≤ ps.length ∧ s5 = .int .i64 k ∧ wr = w.drewN q) (fun s5 _ => ps.length - (intOf s5).toNat)
  case atStart => exact ⟨0, 0, Nat.zero_le _, rfl, rfl⟩
  case round =>
    obtain ⟨k, q, hk, rfl, rfl⟩ := hrel
    by_cases hlt : k < ps.length
    · rcases h1 with rfl | ⟨b1, o1, rfl, hb1, hc1⟩
      · rw [List.length_nil] at hlt; omega
      · rcases h2 with rfl | ⟨b2, o2, rfl, hb2, hc2⟩
        · rw [List.length_nil] at hlt; omega
        · have g1 := hc1 k hlt
          have g2 := hc2 k hlt
          obtain ⟨x, hx⟩ : ∃ x, ps.getD k 0 = x := ⟨_, rfl⟩
          rw [hx] at g1 g2
          have i1 : (k : Int) < (ps.length : Int) := by omega
          have i2 : (k : Int) < (n1 : Int) := by omega
          have i3 : (0 : Int) ≤ (k : Int) := by omega
          clear hc1 hc2 hx
          go_wp2
          go_quiet (fail)
          go_wp2
          go_roundw
          case rel => exact ⟨k + 1, _, by omega, by go_num, rfl⟩
          case measure => simp [intOf]; omega
    · go_wp2
      go_ret
      exact ⟨rfl, _, rfl⟩

set_option maxHeartbeats 400000 in
theorem eq_yes (a1 a2 : Option Addr) (n c1 c2 : Nat) (ps : List Int) (hn : ps.length = n) (w : World) (h1 : Rd w a1 ps) (h2 : Rd w a2 ps) (hx : n ≤ 67108864) :
    Calls Try.prog 16 #[.slice a1 n c1, .slice a2 n c2] w fun e w' => e = .returned (.bool true) ∧ ∃ q, w' = w.drewN q := by
  have HN : Hid (ps.length = n) := hn
  clear hn
  go_enter Try.func16, Try.ntmps16
  go_wp2
  go_loopw [5] (fun s5 wr => ∃ k q : Nat, k ≤ n ∧ s5 = .int .i64 k ∧ wr = w.drewN q) (fun s5 _ => n - (intOf s5).toNat)
  case atStart => exact ⟨0, 0, Nat.zero_le _, rfl, rfl⟩
  case round =>
    obtain ⟨k, q, hk, rfl, rfl⟩ := hrel
    by_cases hlt : k < n
    · have hlt2 : k < ps.length := by rw [HN.out]; exact hlt
      rcases h1 with rfl | ⟨b1, o1, rfl, hb1, hc1⟩
      · rw [List.length_nil] at hlt2; omega
      · rcases h2 with rfl | ⟨b2, o2, rfl, hb2, hc2⟩
        · rw [List.length_nil] at hlt2; omega
        · have g1 := hc1 k hlt2
          have g2 := hc2 k hlt2
          obtain ⟨x, hx⟩ : ∃ x, ps.getD k 0 = x := ⟨_, rfl⟩
          rw [hx] at g1 g2
          have i2 : (k : Int) < (n : Int) := by omega
          have i3 : (0 : Int) ≤ (k : Int) := by omega
          clear hc1 hc2 hx hlt2
          go_wp2
          go_quiet (fail)
          go_wp2
          go_roundw
          case rel => exact ⟨k + 1, _, by omega, by go_num, rfl⟩
          case measure => simp [intOf]; omega
    · go_wp2
      go_ret
      exact ⟨rfl, _, rfl⟩

theorem eq_no (a1 a2 : Option Addr) (n1 n2 c1 c2 : Nat) (w : World) (h : n2 < n1) :
    Calls Try.prog 16 #[.slice a1 n1 c1, .slice a2 n2 c2] w fun e w' => e = .returned (.bool false) ∧ w' = w := by
  go_enter Try.func16, Try.ntmps16
  go_wp2
  go_ret
  exact ⟨rfl, rfl⟩

/-! ### zzCloneBytes -/
theorem clone_nil (w : World) : Calls Try.prog 11 #[.slice none 0 0] w fun e w' => e = .returned (.slice none 0 0) ∧ w' = w := by
  have kn := fun wx => Lib.run_eql_slice_nil (P := Try.prog) wx 24 5 none 0 0 0 0 Try.underlying24
  go_enter Try.func11, Try.ntmps11
  go_wp2
  go_ret
  exact ⟨rfl, rfl⟩

/-- The first k cells of the new row are the source's. -/
structure Half (B : Nat) (w wr : World) (xs : List Int) (k : Nat) : Prop where
  done : ∀ j, j < k → j < xs.length → wr.cell? ⟨B, j, none⟩ = some (.int .u8 (xs.getD j 0))
  there : ∀ j, j < xs.length → ∃ x, wr.cell? ⟨B, j, none⟩ = some (.int .u8 x)
  free : ∀ j, wr.frozen? ⟨B, j, none⟩ = false
  below : Below B w wr
  size : B < wr.heap.size

theorem Half.store {B : Nat} {w wr : World} {xs : List Int} {k : Nat} (h : Half B w wr xs k) (hk : k < xs.length) : Half B w (wr.setCell ⟨B, k, none⟩ (.int .u8 (xs.getD k 0))) xs (k + 1) := by
  refine ⟨fun j hj hl => ?_, fun j hl => ?_, fun j => ?_, h.below.setCell (Nat.le_refl _) _, by rw [World.size_setCell]; exact h.size⟩
  · by_cases e : j = k
    · subst e
      obtain ⟨x, hx⟩ := h.there j hl
      exact World.cell?_setCell_same _ _ _ hx
    · rw [World.cell?_setCell_other _ _ _ _ (fun e2 => e (by injection e2 with e1 e3; exact e3.symm))]
      exact h.done j (by omega) hl
  · by_cases e : j = k
    · subst e
      obtain ⟨x, hx⟩ := h.there j hl
      exact ⟨_, World.cell?_setCell_same _ _ _ hx⟩
    · rw [World.cell?_setCell_other _ _ _ _ (fun e2 => e (by injection e2 with e1 e3; exact e3.symm))]
      exact h.there j hl
  · rw [World.frozen?_setCell]; exact h.free j

theorem half_made {w w0 : World} {xs : List Int} (h : w0.ownsRow w.heap.size 5 1 (.slice (some ⟨w.heap.size, 0, none⟩) xs.length xs.length) xs.length (madeCells #[Value.int .u8 0] xs.length).toList) (hg : w.grownBy w0 none) : Half w.heap.size w w0 xs 0 := by
  rw [toList_madeCells_one] at h
  refine ⟨fun j hj => absurd hj (Nat.not_lt_zero _), fun j hj => ⟨0, ?_⟩, fun j => h.frozenAt j, (Below.refl _ _).grown hg (Nat.le_refl _) (fun k h => by cases h), (h.lt _ rfl).2⟩
  rw [h.cellAt j (by omega)]
  simp [hj]

set_option maxHeartbeats 400000 in
theorem clone_some (x : Addr) (cap : Nat) (xs : List Int) (w : World) (h : Rd w (some x) xs) (hx : xs.length ≤ 1048576) :
    Calls Try.prog 11 #[.slice (some x) xs.length cap] w fun e w' => e = .returned (.slice (some ⟨w.heap.size, 0, none⟩) xs.length xs.length) ∧ Half w.heap.size w w' xs xs.length := by
  obtain ⟨i0, hi, hz0, hz1, hz2⟩ := info_parts Try.info5
  have kn := fun wx => Lib.run_eql_slice_nil (P := Try.prog) wx 24 5 (some x) xs.length cap 0 0 Try.underlying24
  go_enter Try.func11, Try.ntmps11
  go_wp2_with (at_make; refine wpList_make_full _ rfl _ _ 24 rfl w.heap.size 5 i0 (.int .u8 0) 1 Try.underlying24 hi hz0 hz1 _ _ _ _ xs.length rfl rfl rfl rfl ?b2 ?b3 (Nat.le_refl _) ?_)
  case b2 => rw [hz2]; omega
  case b3 => unfold maxLen; omega
  intro w0 hown0 hgrow0
  have HH : Hid (Half w.heap.size w w0 xs 0) := half_made (by simpa using hown0) hgrow0
  clear hown0 hgrow0 kn
  go_wp2
  go_loopw [4] (fun s4 wr => ∃ k : Nat, k ≤ xs.length ∧ s4 = .int .i64 k ∧ Half w.heap.size w wr xs k) (fun s4 _ => xs.length - (intOf s4).toNat)
  case atStart => exact ⟨0, Nat.zero_le _, rfl, HH.out⟩
  case round =>
    obtain ⟨k, hk, rfl, hH⟩ := hrel
    clear HH
    by_cases hlt : k < xs.length
    · rcases h with rfl | ⟨b, off, hxe, hb, hc⟩
      · rw [List.length_nil] at hlt; omega
      · obtain rfl := Option.some.inj hxe
        clear hxe
        have g1 := (hH.below.cell (p := ⟨b, off + k, none⟩) hb).trans (hc k hlt)
        obtain ⟨y, g2⟩ := hH.there k hlt
        have g3 := hH.free k
        have HS := hH.store hlt
        obtain ⟨z, hz⟩ : ∃ z, xs.getD k 0 = z := ⟨_, rfl⟩
        rw [hz] at g1 HS
        have HS' : Hid (Half w.heap.size w (wr.setCell ⟨w.heap.size, k, none⟩ (.int .u8 z)) xs (k + 1)) := HS
        clear HS hH hc hz
        go_wp2
        go_roundw
        case rel => exact ⟨k + 1, by omega, by go_num, HS'.out⟩
        case measure => simp [intOf]; omega
    · obtain rfl : k = xs.length := by omega
      go_wp2
      go_ret
      exact ⟨rfl, hH⟩

theorem Half.tight {w w' : World} {xs : List Int} (h : Half w.heap.size w w' xs xs.length) : Tight w' (some ⟨w.heap.size, 0, none⟩) (xs.map iv) := by
  refine .inr ⟨w.heap.size, rfl, h.size, fun j u hj => ?_⟩
  rw [List.getElem?_map] at hj
  have hl : j < xs.length := by
    rcases Nat.lt_or_ge j xs.length with h | h
    · exact h
    · rw [List.getElem?_eq_none h] at hj; cases hj
  rw [List.getElem?_eq_getElem hl] at hj
  rw [h.done j hl hl, List.getD_eq_getElem?_getD, List.getElem?_eq_getElem hl]
  exact hj

/-- zzCloneBytes, whatever the slice: nil stays nil. -/
theorem clone_any (a : Option Addr) (cap : Nat) (xs : List Int) (w : World) (h : Rd w a xs) (hn : a = none → xs = [] ∧ cap = 0) (hx : xs.length ≤ 1048576) :
    Calls Try.prog 11 #[.slice a xs.length cap] w fun e w' => ∃ ao, e = .returned (.slice ao xs.length xs.length) ∧ Tight w' ao (xs.map iv) ∧ Below w.heap.size w w' := by
  cases a with
  | none =>
    obtain ⟨rfl, rfl⟩ := hn rfl
    refine (clone_nil w).mono ?_
    rintro e w' ⟨rfl, rfl⟩
    exact ⟨none, rfl, .inl ⟨rfl, rfl⟩, Below.refl _ _⟩
  | some x =>
    refine (clone_some x cap xs w h hx).mono ?_
    rintro e w' ⟨rfl, hH⟩
    exact ⟨_, rfl, hH.tight, hH.below⟩
end Go.Proofs.Qxb6609053a
