/-
  The ground under both laws: the sentinels' variables, a copy of the data, the reader's ground in every later world.
-/
import Derived.Test.Qxb6612819aDoorZz
import Derived.Test.Qxb6612819aDoorNew
import Derived.Test.Qxb6612819aDoorSmall
namespace Go.Proofs.Qxb6612819aDoor
open Go.RowKit

theorem Half.bs {w w' : World} {xs : List Int} (h : Half w.heap.size w w' xs xs.length) : Bs w' (some ⟨w.heap.size, 0, none⟩) xs :=
  .inr ⟨w.heap.size, 0, rfl, h.size, fun j hj => by rw [Nat.zero_add]; exact h.done j hj hj⟩

/-- The two sentinels' variables. -/
structure Gl (W : World) (ea fa : Addr) : Prop where
  eof : W.cell? ⟨1, 0, none⟩ = some (.iface 65 (.pointer (some ea)))
  full : W.cell? ⟨0, 0, none⟩ = some (.iface 65 (.pointer (some fa)))
  e1 : ∃ ca ta, Blk W ea.block ca ta
  f1 : ∃ ca ta, Blk W fa.block ca ta
  ne : ea ≠ fa

theorem lt_of_cell {W : World} {a : Addr} {v : Value} (h : W.cell? a = some v) : a.block < W.heap.size := by
  rcases Nat.lt_or_ge a.block W.heap.size with h1 | h1
  · exact h1
  · simp [World.cell?, Array.getElem?_eq_none h1] at h

theorem Gl.below {W W' : World} {ea fa : Addr} (g : Gl W ea fa) (hb : Below W.heap.size W W') : Gl W' ea fa := by
  obtain ⟨ca, ta, h1⟩ := g.e1
  obtain ⟨cf, tf, h2⟩ := g.f1
  exact ⟨(hb.cell (p := ⟨1, 0, none⟩) (lt_of_cell g.eof)).trans g.eof, (hb.cell (p := ⟨0, 0, none⟩) (lt_of_cell g.full)).trans g.full, ⟨ca, ta, (hb.block _ h1.lt).trans h1⟩, ⟨cf, tf, (hb.block _ h2.lt).trans h2⟩, g.ne⟩

theorem below_trans {a b c : World} {m n : Nat} (h1 : Below m a b) (h2 : Below n b c) (h : m ≤ n) : Below m a c :=
  ⟨h2.os.trans h1.os, h2.tape.trans h1.tape, h2.output.trans h1.output, Nat.le_trans h1.size h2.size, fun k hk => (h2.block k (by omega)).trans (h1.block k hk)⟩

/-- What stands behind the reader's making: in every later world the reader's ground stands. -/
theorem ground {W W3 : World} {ea fa : Addr} {B U R m : Nat} {sa : Option Addr} {ds : List Int} (g : Gl W ea fa) (hb : Below W.heap.size W W3) (hm : W.heap.size ≤ m) (h3 : ∀ k, Three B U R k → m ≤ k) (hsz : ds.length ≤ 4194304)
    (hs : ds = [] ∨ ∃ D, sa = some ⟨D, 0, none⟩ ∧ D < m ∧ ∀ j, j < ds.length → W3.cell? ⟨D, j, none⟩ = some (.int .u8 (ds.getD j 0))) :
    ∀ w', Keep (Three B U R) W3 w' → Env w' B U R sa ds ea fa ∧ Errs w' B U R ea fa ∧ Below W.heap.size W w' := by
  have hlow : ∀ k, k < W.heap.size → ¬ Three B U R k := fun k hk ht => by have := h3 k ht; omega
  have i1 : (1 : Nat) < W.heap.size := lt_of_cell g.eof
  have i0 : (0 : Nat) < W.heap.size := lt_of_cell g.full
  obtain ⟨ca, ta, h1⟩ := g.e1
  obtain ⟨cf, tf, h2⟩ := g.f1
  intro w' hk
  have E : Env W3 B U R sa ds ea fa := by
    refine ⟨?_, (hb.cell (p := ⟨1, 0, none⟩) i1).trans g.eof, (hb.cell (p := ⟨0, 0, none⟩) i0).trans g.full, hlow _ i1, hlow _ i0, hsz⟩
    rcases hs with hs | ⟨D, e1, e2, e3⟩
    · exact .inl hs
    · exact .inr ⟨D, e1, fun ht => by have := h3 D ht; omega, e3⟩
  have F : Errs W3 B U R ea fa := ⟨⟨ca, ta, (hb.block _ h1.lt).trans h1⟩, ⟨cf, tf, (hb.block _ h2.lt).trans h2⟩, g.ne, hlow _ h1.lt, hlow _ h2.lt⟩
  refine ⟨E.keep hk, F.keep hk, ?_⟩
  have hk2 := hk.below (B := W.heap.size) hb.size hlow
  exact ⟨hk2.os.trans hb.os, hk2.tape.trans hb.tape, hk2.output.trans hb.output, Nat.le_trans hb.size hk2.size, fun k hk' => (hk2.block k hk').trans (hb.block k hk')⟩

/-- The bytes xs in a new row of their own. -/
def CloneAt (W W' : World) (r : Option Addr) (xs : List Int) : Prop :=
  xs = [] ∨ ∃ D, r = some ⟨D, 0, none⟩ ∧ W.heap.size ≤ D ∧ D < W'.heap.size ∧ ∀ j, j < xs.length → W'.cell? ⟨D, j, none⟩ = some (.int .u8 (xs.getD j 0))
theorem CloneAt.bs {W W' : World} {r : Option Addr} {xs : List Int} (h : CloneAt W W' r xs) : Bs W' r xs := by
  rcases h with h | ⟨D, h1, _, h3, h4⟩
  · exact .inl h
  · exact .inr ⟨D, 0, h1, h3, fun j hj => by rw [Nat.zero_add]; exact h4 j hj⟩
theorem CloneAt.none {W W' : World} {r : Option Addr} {xs : List Int} (h : CloneAt W W' r xs) : r = none → xs = [] ∧ xs.length = 0 := by
  rintro rfl
  rcases h with h | ⟨D, h1, _⟩
  · subst h; exact ⟨rfl, rfl⟩
  · cases h1

theorem clone_any (a : Option Addr) (cap : Nat) (xs : List Int) (W : World) (h : Bs W a xs) (hn : a = none → xs = [] ∧ cap = 0) (hx : xs.length ≤ 1048576) :
    Calls Tryd.prog 7 #[.slice a xs.length cap] W fun e W' => ∃ r, e = .returned (.slice r xs.length xs.length) ∧ Below W.heap.size W W' ∧ CloneAt W W' r xs := by
  cases a with
  | none =>
    obtain ⟨rfl, rfl⟩ := hn rfl
    refine Calls.mono (clone_nil W) ?_
    rintro e W' ⟨rfl, rfl⟩
    exact ⟨none, rfl, Below.refl _ _, .inl rfl⟩
  | some x =>
    refine Calls.mono (clone_some x cap xs W h hx) ?_
    rintro e W' ⟨rfl, hh⟩
    exact ⟨_, rfl, hh.below, .inr ⟨W.heap.size, rfl, Nat.le_refl _, hh.size, fun j hj => hh.done j hj hj⟩⟩

/-- A row that is owned is a slice whose bytes are known. -/
theorem own_slice {W : World} {base : Nat} {v : Value} {xs : List Int} (h : W.ownsRow base 5 1 v xs.length (xs.map (Value.int .u8))) : ∃ a c, v = .slice a xs.length c ∧ Bs W a xs := by
  rcases h.2 with ⟨rfl, h1⟩ | ⟨g, cap, cur, rfl, h2, h3, h4, h5, h6, h7⟩
  · rw [h1]
    exact ⟨none, 0, rfl, .inl (List.eq_nil_of_length_eq_zero h1)⟩
  · refine ⟨_, cap, rfl, .inr ⟨g, 0, rfl, ?_, fun j hj => ?_⟩⟩
    · rcases Nat.lt_or_ge g W.heap.size with hh | hh
      · exact hh
      · rw [Array.getElem?_eq_none hh] at h3; cases h3
    · have h8 : cur[j]? = some (.int .u8 (xs.getD j 0)) := by
        have := congrArg (fun l => l[j]?) h7
        simp only [List.getElem?_take, List.getElem?_map] at this
        rw [if_pos (by omega)] at this
        rw [← Array.getElem?_toList, this, List.getElem?_eq_getElem hj, List.getD_eq_getElem?_getD, List.getElem?_eq_getElem hj]
        rfl
      rw [Nat.zero_add]
      simp [World.cell?, h3, h8]
end Go.Proofs.Qxb6612819aDoor
