/-
  zzCopyBytes (7), zzSameBytes (10), zzBytes.. (6).
-/
import Derived.Test.Qxb6612819aDoorMem
import Derived.Lib.SliceRun
import Derived.OwnWalk
import Derived.Laws.OwnMore
namespace Go.Proofs.Qxb6612819aDoor
open Go.RowKit

theorem Tryd.info5 : (Tryd.prog.info? 5).map (fun i => (i.zero, i.size, i.bytes)) = some (some (.int .u8 0), 1, 1) := by kernel_rfl

/-- The bytes of a slice, as far as its length. -/
def Bs (w : World) (a : Option Addr) (xs : List Int) : Prop :=
  xs = [] ∨ ∃ b off, a = some ⟨b, off, none⟩ ∧ b < w.heap.size ∧ ∀ j, j < xs.length → w.cell? ⟨b, off + j, none⟩ = some (.int .u8 (xs.getD j 0))

theorem Bs.below {w w' : World} {a : Option Addr} {xs : List Int} {B : Nat} (h : Bs w a xs) (hb : Below B w w') (hB : w.heap.size ≤ B) : Bs w' a xs := by
  rcases h with h | ⟨b, off, h1, h2, h3⟩
  · exact .inl h
  · exact .inr ⟨b, off, h1, Nat.lt_of_lt_of_le h2 hb.size, fun j hj => (hb.cell (p := ⟨b, off + j, none⟩) (Nat.lt_of_lt_of_le h2 hB)).trans (h3 j hj)⟩

set_option maxHeartbeats 400000 in
theorem eq_yes (a1 a2 : Option Addr) (n c1 c2 : Nat) (ps : List Int) (hn : ps.length = n) (w : World) (h1 : Bs w a1 ps) (h2 : Bs w a2 ps) (hx : n ≤ 67108864) :
    Calls Tryd.prog 10 #[.slice a1 n c1, .slice a2 n c2] w fun e w' => e = .returned (.bool true) ∧ ∃ q, w' = w.drewN q := by
  have HN : Hid (ps.length = n) := hn
  clear hn
  go_enter Tryd.func10, Tryd.ntmps10
  go_wp2
  go_loopw [5] (fun s5 wr => ∃ k q : Nat, k ≤ n ∧ s5 = .int .i64 k ∧ wr = w.drewN q) (fun s5 _ => n - (intOf s5).toNat)
  case atStart => exact ⟨0, 0, Nat.zero_le _, rfl, rfl⟩
  case round =>
    obtain ⟨k, q, hk, rfl, rfl⟩ := hrel
    by_cases hlt : k < n
    · have hlt2 : k < ps.length := by rw [HN.out]; exact hlt
      rcases h1 with rfl | ⟨b1, o1, rfl, hb1, hc1⟩
      · rw [List.length_nil] at hlt2; omega
      · rcases h2 with rfl | ⟨b2, o2, rfl, hb2, hc2⟩
        · rw [List.length_nil] at hlt2; omega
        · have g1 := hc1 k hlt2
          have g2 := hc2 k hlt2
          obtain ⟨x, hx⟩ : ∃ x, ps.getD k 0 = x := ⟨_, rfl⟩
          rw [hx] at g1 g2
          have i2 : (k : Int) < (n : Int) := by omega
          have i3 : (0 : Int) ≤ (k : Int) := by omega
          clear hc1 hc2 hx hlt2
          go_wp2
          go_quiet (fail)
          go_wp2
          go_roundw
          case rel => exact ⟨k + 1, _, by omega, by go_num, rfl⟩
          case measure => simp [intOf]; omega
    · go_wp2
      go_ret
      exact ⟨rfl, _, rfl⟩

theorem clone_nil (w : World) : Calls Tryd.prog 7 #[.slice none 0 0] w fun e w' => e = .returned (.slice none 0 0) ∧ w' = w := by
  have kn := fun wx => Lib.run_eql_slice_nil (P := Tryd.prog) wx 22 5 none 0 0 0 0 Tryd.underlying22
  go_enter Tryd.func7, Tryd.ntmps7
  go_wp2
  go_ret
  exact ⟨rfl, rfl⟩

/-- The first k cells of the new row are the source's. -/
structure Half (B : Nat) (w wr : World) (xs : List Int) (k : Nat) : Prop where
  done : ∀ j, j < k → j < xs.length → wr.cell? ⟨B, j, none⟩ = some (.int .u8 (xs.getD j 0))
  there : ∀ j, j < xs.length → ∃ x, wr.cell? ⟨B, j, none⟩ = some (.int .u8 x)
  free : ∀ j, wr.frozen? ⟨B, j, none⟩ = false
  below : Below B w wr
  size : B < wr.heap.size

theorem Half.store {B : Nat} {w wr : World} {xs : List Int} {k : Nat} (h : Half B w wr xs k) (hk : k < xs.length) : Half B w (wr.setCell ⟨B, k, none⟩ (.int .u8 (xs.getD k 0))) xs (k + 1) := by
  refine ⟨fun j hj hl => ?_, fun j hl => ?_, fun j => ?_, h.below.setCell (Nat.le_refl _) _, by rw [World.size_setCell]; exact h.size⟩
  · by_cases e : j = k
    · subst e
      obtain ⟨x, hx⟩ := h.there j hl
      exact World.cell?_setCell_same _ _ _ hx
    · rw [World.cell?_setCell_other _ _ _ _ (fun e2 => e (by injection e2 with e1 e3; exact e3.symm))]
      exact h.done j (by omega) hl
  · by_cases e : j = k
    · subst e
      obtain ⟨x, hx⟩ := h.there j hl
      exact ⟨_, World.cell?_setCell_same _ _ _ hx⟩
    · rw [World.cell?_setCell_other _ _ _ _ (fun e2 => e (by injection e2 with e1 e3; exact e3.symm))]
      exact h.there j hl
  · rw [World.frozen?_setCell]; exact h.free j

theorem half_made {w w0 : World} {xs : List Int} (h : w0.ownsRow w.heap.size 5 1 (.slice (some ⟨w.heap.size, 0, none⟩) xs.length xs.length) xs.length (madeCells #[Value.int .u8 0] xs.length).toList) (hg : w.grownBy w0 none) : Half w.heap.size w w0 xs 0 := by
  rw [toList_madeCells_one] at h
  refine ⟨fun j hj => absurd hj (Nat.not_lt_zero _), fun j hj => ⟨0, ?_⟩, fun j => h.frozenAt j, (Below.refl _ _).grown hg (Nat.le_refl _) (fun k h => by cases h), (h.lt _ rfl).2⟩
  rw [h.cellAt j (by omega)]
  simp [hj]

set_option maxHeartbeats 400000 in
theorem clone_some (x : Addr) (cap : Nat) (xs : List Int) (w : World) (h : Bs w (some x) xs) (hx : xs.length ≤ 1048576) :
    Calls Tryd.prog 7 #[.slice (some x) xs.length cap] w fun e w' => e = .returned (.slice (some ⟨w.heap.size, 0, none⟩) xs.length xs.length) ∧ Half w.heap.size w w' xs xs.length := by
  obtain ⟨i0, hi, hz0, hz1, hz2⟩ := info_parts Tryd.info5
  have kn := fun wx => Lib.run_eql_slice_nil (P := Tryd.prog) wx 22 5 (some x) xs.length cap 0 0 Tryd.underlying22
  go_enter Tryd.func7, Tryd.ntmps7
  go_wp2_with (at_make; refine wpList_make_full _ rfl _ _ 22 rfl w.heap.size 5 i0 (.int .u8 0) 1 Tryd.underlying22 hi hz0 hz1 _ _ _ _ xs.length rfl rfl rfl rfl ?b2 ?b3 (Nat.le_refl _) ?_)
  case b2 => rw [hz2]; omega
  case b3 => unfold maxLen; omega
  intro w0 hown0 hgrow0
  have HH : Hid (Half w.heap.size w w0 xs 0) := half_made (by simpa using hown0) hgrow0
  clear hown0 hgrow0 kn
  go_wp2
  go_loopw [4] (fun s4 wr => ∃ k : Nat, k ≤ xs.length ∧ s4 = .int .i64 k ∧ Half w.heap.size w wr xs k) (fun s4 _ => xs.length - (intOf s4).toNat)
  case atStart => exact ⟨0, Nat.zero_le _, rfl, HH.out⟩
  case round =>
    obtain ⟨k, hk, rfl, hH⟩ := hrel
    clear HH
    by_cases hlt : k < xs.length
    · rcases h with rfl | ⟨b, off, hxe, hb, hc⟩
      · rw [List.length_nil] at hlt; omega
      · obtain rfl := Option.some.inj hxe
        clear hxe
        have g1 := (hH.below.cell (p := ⟨b, off + k, none⟩) hb).trans (hc k hlt)
        obtain ⟨y, g2⟩ := hH.there k hlt
        have g3 := hH.free k
        have HS := hH.store hlt
        obtain ⟨z, hz⟩ : ∃ z, xs.getD k 0 = z := ⟨_, rfl⟩
        rw [hz] at g1 HS
        have HS' : Hid (Half w.heap.size w (wr.setCell ⟨w.heap.size, k, none⟩ (.int .u8 z)) xs (k + 1)) := HS
        clear HS hH hc hz
        go_wp2
        go_roundw
        case rel => exact ⟨k + 1, by omega, by go_num, HS'.out⟩
        case measure => simp [intOf]; omega
    · obtain rfl : k = xs.length := by omega
      go_wp2
      go_ret
      exact ⟨rfl, hH⟩


theorem same_len (a1 a2 : Option Addr) (n1 n2 c1 c2 : Nat) (w : World) (h : n1 ≠ n2) :
    Calls Tryd.prog 10 #[.slice a1 n1 c1, .slice a2 n2 c2] w fun e w' => e = .returned (.bool false) ∧ w' = w := by
  go_enter Tryd.func10, Tryd.ntmps10
  go_wp2
  go_ret
  exact ⟨rfl, rfl⟩
theorem bytes_any (a : Option Addr) (len cap : Nat) (w : World) (h1 : len ≤ 9223372036854775807) :
    Calls Tryd.prog 6 #[.slice a len cap] w fun e w' => (e = .returned (.bool (decide (len ≤ 1048576)))) ∧ w' = w := by
  by_cases c1 : len ≤ 1048576
  · go_enter Tryd.func6, Tryd.ntmps6
    go_wp2
    go_ret
    exact ⟨by simp [c1], rfl⟩
  · go_enter Tryd.func6, Tryd.ntmps6
    go_wp2
    go_ret
    exact ⟨by simp [c1], rfl⟩
end Go.Proofs.Qxb6612819aDoor
