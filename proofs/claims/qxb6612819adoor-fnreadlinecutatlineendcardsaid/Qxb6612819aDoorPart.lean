/-
  zzBytes.. (11); a row of bytes that is being filled; what law 4 needs of its three readings.
-/
import Derived.Test.Qxb6612819aDoorLines
namespace Go.Proofs.Qxb6612819aDoor
open Go.RowKit

theorem bytes_two (a b : Option Addr) (n m ca cb : Nat) (w : World) (h1 : n ≤ 9223372036854775807) (h2 : m ≤ 9223372036854775807) :
    Calls Tryd.prog 11 #[.slice a n ca, .slice b m cb] w fun e w' => (e = .returned (.bool (decide (n + m ≤ 1048576)))) ∧ w' = w := by
  by_cases c1 : n ≤ 1048576
  · by_cases c2 : m ≤ 1048576
    · by_cases c3 : n + m ≤ 1048576
      · have c4 : ¬ (1048576 : Int) < (n : Int) + (m : Int) := by omega
        go_enter Tryd.func11, Tryd.ntmps11
        go_wp2
        go_ret
        exact ⟨rfl, rfl⟩
      · have c4 : (1048576 : Int) < (n : Int) + (m : Int) := by omega
        go_enter Tryd.func11, Tryd.ntmps11
        go_wp2
        go_ret
        exact ⟨by rw [decide_eq_false c3]; rfl, rfl⟩
    · have c3 : ¬ n + m ≤ 1048576 := by omega
      go_enter Tryd.func11, Tryd.ntmps11
      go_wp2
      go_ret
      exact ⟨by rw [decide_eq_false c3]; rfl, rfl⟩
  · have c3 : ¬ n + m ≤ 1048576 := by omega
    go_enter Tryd.func11, Tryd.ntmps11
    go_wp2
    go_ret
    exact ⟨by rw [decide_eq_false c3]; rfl, rfl⟩

set_option maxRecDepth 20000 in
theorem law_big4 (a b : Option Addr) (n m ca cb : Nat) (W : World) (h1 : n ≤ 9223372036854775807) (h2 : m ≤ 9223372036854775807) (h : ¬ n + m ≤ 1048576) :
    Calls Tryd.prog 4 #[.slice a n ca, .slice b m cb] W fun e W' => e = .returned (.bool true) ∧ Below W.heap.size W W' := by
  go_enter Tryd.func4, Tryd.ntmps4
  go_wp2_with ((go_at_call 11; refine Calls.mono (bytes_two a b n m ca cb _ h1 h2) ?_; rw [decide_eq_false h]; rintro _ _ ⟨rfl, rfl⟩))
  go_ret
  exact ⟨rfl, Below.refl _ _⟩

/-- The first k cells of the row b are those of zs. -/
structure Part (b : Nat) (wr : World) (zs : List Int) (k : Nat) : Prop where
  done : ∀ j, j < k → j < zs.length → wr.cell? ⟨b, j, none⟩ = some (.int .u8 (zs.getD j 0))
  there : ∀ j, j < zs.length → ∃ x, wr.cell? ⟨b, j, none⟩ = some (.int .u8 x)
  free : ∀ j, wr.frozen? ⟨b, j, none⟩ = false
  size : b < wr.heap.size

theorem Part.store {b : Nat} {wr : World} {zs : List Int} {k : Nat} (h : Part b wr zs k) (hk : k < zs.length) {z : Int} (hz : zs.getD k 0 = z) : Part b (wr.setCell ⟨b, k, none⟩ (.int .u8 z)) zs (k + 1) := by
  subst hz
  refine ⟨fun j hj hl => ?_, fun j hl => ?_, fun j => ?_, by rw [World.size_setCell]; exact h.size⟩
  · by_cases e : j = k
    · subst e
      obtain ⟨x, hx⟩ := h.there j hl
      exact World.cell?_setCell_same _ _ _ hx
    · rw [World.cell?_setCell_other _ _ _ _ (fun e2 => e (by injection e2 with e1 e3; exact e3.symm))]
      exact h.done j (by omega) hl
  · by_cases e : j = k
    · subst e
      obtain ⟨x, hx⟩ := h.there j hl
      exact ⟨_, World.cell?_setCell_same _ _ _ hx⟩
    · rw [World.cell?_setCell_other _ _ _ _ (fun e2 => e (by injection e2 with e1 e3; exact e3.symm))]
      exact h.there j hl
  · rw [World.frozen?_setCell]; exact h.free j
theorem Part.same {b : Nat} {wr w' : World} {zs : List Int} {k : Nat} (h : Part b wr zs k) (hs : w'.heap[b]? = wr.heap[b]?) (hl : b < w'.heap.size) : Part b w' zs k :=
  ⟨fun j hj hl => (World.cell?_of_block (a := ⟨b, j, none⟩) hs).trans (h.done j hj hl), fun j hl => by obtain ⟨x, hx⟩ := h.there j hl; exact ⟨x, (World.cell?_of_block (a := ⟨b, j, none⟩) hs).trans hx⟩, fun j => (World.frozen?_of_block (a := ⟨b, j, none⟩) hs).trans (h.free j), hl⟩
theorem Part.other {b : Nat} {wr : World} {zs : List Int} {k : Nat} (h : Part b wr zs k) (p : Addr) (v : Value) (hp : p.block ≠ b) : Part b (wr.setCell p v) zs k :=
  h.same (Below.heap_setCell wr p v b (fun e => hp e.symm)) (by rw [World.size_setCell]; exact h.size)
theorem Part.alloc {b : Nat} {wr : World} {zs : List Int} {k : Nat} (h : Part b wr zs k) (o : Obj) : Part b (wr.alloc o) zs k :=
  h.same (Below.heap_alloc wr o b h.size) (by rw [World.size_alloc]; have := h.size; omega)
theorem Part.made (w : World) (zs : List Int) (n : Nat) (hn : zs.length = n) : Part w.heap.size (w.alloc (.cells (madeCells #[.int .u8 0] n) 5)) zs 0 := by
  have hb := blk_new w (madeCells #[.int .u8 0] n) 5
  refine ⟨fun j hj => absurd hj (Nat.not_lt_zero _), fun j hj => ⟨0, ?_⟩, fun j => hb.free j, hb.lt⟩
  rw [hb.cell j, ← Array.getElem?_toList, toList_madeCells_one]
  rw [List.getElem?_replicate, if_pos (by omega)]

theorem make_bytes (n : Nat) (x : Int) (hx : (n : Int) = x) (hn : n ≤ 2097153) (w : World) : (Instr.makeSlice 22 (.int .i64 x) (.int .i64 x)).run Tryd.prog w = .ok (.slice (some ⟨w.heap.size, 0, none⟩) n n) (w.alloc (.cells (madeCells #[.int .u8 0] n) 5)) := by
  subst hx
  exact run_make_row' (P := Tryd.prog) 22 5 (.int .u8 0) 1 Tryd.underlying22 (by kernel_rfl) rfl .i64 .i64 n (by omega) (by first | omega | (unfold maxLen; omega)) w

/-- One reading's lines, in a later world. -/
theorem AllAt.later {V V' : World} {base : Nat} {v : Value} {n : Nat} {vs : List Value} {ws : List (List Int)} (ho : V.ownsRow base 22 1 v n vs) (hr : RowsAt V base vs ws) (hb : Below V.heap.size V V') : V'.ownsRow base 22 1 v n vs ∧ RowsAt V' base vs ws :=
  ⟨owns_same ho (fun g _ _ hc => hb.block g (lt_of_heap hc)), hr.same (fun g _ _ hc => hb.block g (lt_of_heap hc))⟩

/-- The i-th line, as a slice. -/
theorem RowsAt.get {V : World} {base : Nat} {vs : List Value} {ws : List (List Int)} (h : RowsAt V base vs ws) (i : Nat) (hi : i < vs.length) : ∃ a c, vs[i]? = some (.slice a (ws.getD i []).length c) ∧ Bs V a (ws.getD i []) := by
  have hl := h.1
  have h2 := h.2 i vs[i] (ws.getD i []) (List.getElem?_eq_getElem hi) (by rw [List.getD_eq_getElem?_getD, List.getElem?_eq_getElem (by omega)]; rfl)
  obtain ⟨a, c, e, hb⟩ := own_slice h2
  exact ⟨a, c, by rw [List.getElem?_eq_getElem hi, e], hb⟩
end Go.Proofs.Qxb6612819aDoor
