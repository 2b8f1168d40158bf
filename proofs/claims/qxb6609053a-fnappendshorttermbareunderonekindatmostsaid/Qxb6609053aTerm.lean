/-
  AppendTerm (20): whatever the term, the answer begins with b and is longer than b and the lexical form together; b stays as it was.
-/
import Derived.Test.Qxb6609053aApp
import Derived.Deep.RegionLaw
namespace Go.Proofs.Qxb6609053a
open Go.RowKit

/-- What every append of a term leaves. -/
def Longer (w : World) (bs : List Value) (n : Nat) (e : Ending) (w' : World) : Prop :=
  ∃ v' n', e = .returned v' ∧ Row w.heap.size w w' bs v' n' ∧ n < n'

theorem longer_of {w w' : World} {bs : List Value} {n n' : Nat} {v' : Value} {o : Obj} (h : Row (w.heap.size + 1) (w.alloc o) w' bs v' n') (hn : n < n') : Longer w bs n (.returned v') w' := by
  obtain ⟨ys, hy⟩ := h.own
  refine ⟨v', n', rfl, ⟨⟨ys, own_base hy (by omega)⟩, ?_, by have := h.base; omega⟩, hn⟩
  exact ((Below.refl _ _).alloc (Nat.le_refl _) o).trans (h.below.mono (by omega))

theorem Row.field {w W : World} {cs : Array Value} {bs : List Value} {v : Value} {n : Nat} (h : Row (w.heap.size + 1) (w.alloc (.cells cs 32)) W bs v n) (i : Nat) : W.cell? ⟨w.heap.size, i, none⟩ = cs[i]? := by
  rw [h.below.cell (p := ⟨w.heap.size, i, none⟩) (Nat.lt_succ_self _)]
  exact World.cell?_alloc_at cs 32 _ i rfl
theorem Row.size1 {w W : World} {o : Obj} {bs : List Value} {v : Value} {n : Nat} (h : Row (w.heap.size + 1) (w.alloc o) W bs v n) : w.heap.size < W.heap.size := by have := h.base; omega

theorem t1_byte (w : World) (o : Obj) (W : World) (ao : Option Addr) (bs : List Value) (ty : TypeId) (gs : Nat) (ht : Tight w ao bs) (hn : bs.length ≤ 262144) (hb : Below (w.heap.size + 1) (w.alloc o) W) (hs : Src W gs) :
    ∃ v' w', (Builtin.append_ #[24, 24] ty #[.slice ao bs.length bs.length, .slice (some ⟨gs, 0, none⟩) 1 1]).run Try.prog W = .ok v' w' ∧ Out1 (w.heap.size + 1) (w.alloc o) W bs (bs.length + 1) v' w' := by
  have hz := hb.size
  rw [World.size_alloc] at hz
  exact run_tight_byte _ _ W ao bs ty gs hb hz (ht.below (((Below.refl _ _).alloc (Nat.le_refl _) o).trans (hb.mono (by omega))) (Nat.le_refl _)) hs (by omega)
theorem t1_str (w : World) (o : Obj) (W : World) (ao : Option Addr) (bs : List Value) (ty : TypeId) (s : ByteArray) (ht : Tight w ao bs) (hn : bs.length ≤ 262144) (h0 : 0 < s.size) (hs : s.size ≤ 1048576) (hb : Below (w.heap.size + 1) (w.alloc o) W) :
    ∃ v' w', (Builtin.append_ #[24, 9] ty #[.slice ao bs.length bs.length, .string s]).run Try.prog W = .ok v' w' ∧ Out1 (w.heap.size + 1) (w.alloc o) W bs (bs.length + s.size) v' w' := by
  have hz := hb.size
  rw [World.size_alloc] at hz
  obtain ⟨v', w', h1, h2, _⟩ := run_tight_str _ _ W ao bs ty s hb hz (ht.below (((Below.refl _ _).alloc (Nat.le_refl _) o).trans (hb.mono (by omega))) (Nat.le_refl _)) h0 (by omega)
  exact ⟨v', w', h1, h2⟩

set_option maxHeartbeats 1000000 in
theorem term_iri (ao : Option Addr) (bs : List Value) (val dt lang : ByteArray) (w : World) (ht : Tight w ao bs) (hn : bs.length ≤ 262144) (hv : val.size ≤ 262144) :
    Calls Try.prog 20 #[.slice ao bs.length bs.length, .agg #[.int .u8 1, .string val, .string dt, .string lang]] w fun e w' => Longer w bs (bs.length + val.size) e w' := by
  go_enter Try.func20, Try.ntmps20
  go_wp2
  go_region_law (first
    | (refine step_append rfl (.tmp 13) (.tmp 14) 24 24 rfl (v1 := .slice ao bs.length bs.length) (v2 := .slice (some ⟨_, 0, none⟩) 1 1) rfl rfl (t1_byte w (.cells #[.int .u8 1, .string val, .string dt, .string lang] 32) _ ao bs _ _ ht hn (by first | (refine ((Below.refl _ _).alloc ?_ _).drew; simp; done) | (refine (((Below.refl _ _).alloc ?_ _).alloc ?_ _).drew <;> simp; done)) (by first | (refine (Src.new _ _ ?_).drew; simp; done) | (refine ((Src.new _ _ ?_).alloc _).drew; simp; done))) ?_; intro v1 w1 h1; have hc1 := h1.row.field 1; have hz1 := h1.row.size1)
    | (refine step_append rfl (.tmp 15) (.tmp 17) 24 9 rfl (v2 := .string val) rfl rfl (run_row_str (w.heap.size + 1) (w.alloc (.cells #[.int .u8 1, .string val, .string dt, .string lang] 32)) _ bs v1 (bs.length + 1) _ val (by first | exact h1.row | exact h1.row.alloc _) (by omega)) ?_; intro v2 w2 h2; have hz2 := h2.row.size1)
    | (refine step_append rfl (.tmp 18) (.tmp 19) 24 24 rfl (v2 := .slice (some ⟨_, 0, none⟩) 1 1) rfl rfl (run_row_byte (w.heap.size + 1) (w.alloc (.cells #[.int .u8 1, .string val, .string dt, .string lang] 32)) _ bs v2 (bs.length + 1 + val.size) _ _ (by first | exact h2.row | exact h2.row.alloc _) (by first | (refine Src.new _ _ ?_; simp; done) | (refine (Src.new _ _ ?_).kept h2.grown (h1.row.ne_new ?_) <;> simp; done) | (refine (((Src.new _ _ ?_).drew).kept h1.grown ?_).kept h2.grown (h1.far _ ?_) <;> simp; done) | (refine ((((Src.new _ _ ?_).alloc _).drew).kept h1.grown ?_).kept h2.grown (h1.far _ ?_) <;> simp; done)) (by omega)) ?_; intro v3 w3 h3))
  all_goals
    go_wp2
    go_ret
    exact longer_of h3.row (by omega)

set_option maxHeartbeats 1000000 in
theorem term_blank (ao : Option Addr) (bs : List Value) (val dt lang : ByteArray) (w : World) (ht : Tight w ao bs) (hn : bs.length ≤ 262144) (hv : val.size ≤ 262144) :
    Calls Try.prog 20 #[.slice ao bs.length bs.length, .agg #[.int .u8 2, .string val, .string dt, .string lang]] w fun e w' => Longer w bs (bs.length + val.size) e w' := by
  go_enter Try.func20, Try.ntmps20
  go_wp2
  go_region_law (first
    | (refine step_append rfl (.tmp 23) (.const (.string ⟨#[95, 58]⟩)) 24 9 rfl (v1 := .slice ao bs.length bs.length) (v2 := .string ⟨#[95, 58]⟩) rfl rfl (t1_str w (.cells #[.int .u8 2, .string val, .string dt, .string lang] 32) _ ao bs _ ⟨#[95, 58]⟩ ht hn (by decide) (by decide) (by exact (Below.refl _ _).drew)) ?_; intro v1 w1 h1; have hc1 := h1.row.field 1; have hz1 := h1.row.size1)
    | (refine step_append rfl (.tmp 24) (.tmp 26) 24 9 rfl (v2 := .string val) rfl rfl (run_row_str (w.heap.size + 1) (w.alloc (.cells #[.int .u8 2, .string val, .string dt, .string lang] 32)) _ bs v1 (bs.length + 2) _ val (by exact h1.row) (by omega)) ?_; intro v2 w2 h2))
  all_goals
    go_wp2
    go_ret
    exact longer_of h2.row (by omega)
end Go.Proofs.Qxb6609053a
