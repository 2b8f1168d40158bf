/-
  'append' as AppendTerm meets it: onto a slice without spare room that must stay as it is ('Tight'), and onto the row that grows out of it ('Row'). Laws over the program's run, and their forms at a plain region's list and at a step of a region that draws its order.
-/
import Derived.Test.Qxb6609053aRows
import Derived.WalkKit
import Derived.WalkSpells
import Derived.WalkLawsBesides
import Derived.Lib.AppendStr
import Derived.Deep.RegionLawGrows
import Derived.Deep.AppendLies
import Derived.WideShapes
namespace Go.Proofs.Qxb6609053a
open Go.RowKit

theorem Try.info5 : (Try.prog.info? 5).map (fun i => (i.zero, i.size, i.bytes)) = some (some (.int .u8 0), 1, 1) := by kernel_rfl

/-- The slice '.slice ao bs.length bs.length' holds bs; it has no spare room. -/
def Tight (W : World) (ao : Option Addr) (bs : List Value) : Prop :=
  (ao = none ∧ bs = []) ∨ ∃ g, ao = some ⟨g, 0, none⟩ ∧ g < W.heap.size ∧ ∀ j u, bs[j]? = some u → W.cell? ⟨g, j, none⟩ = some u

theorem Tight.below {W W' : World} {ao : Option Addr} {bs : List Value} {B : Nat} (h : Tight W ao bs) (hb : Below B W W') (hB : W.heap.size ≤ B) : Tight W' ao bs := by
  rcases h with h | ⟨g, h1, h2, h3⟩
  · exact .inl h
  · exact .inr ⟨g, h1, Nat.lt_of_lt_of_le h2 hb.size, fun j u hj => (hb.cell (p := ⟨g, j, none⟩) (Nat.lt_of_lt_of_le h2 hB)).trans (h3 j u hj)⟩

/-- A row of the call's own that begins with bs. -/
structure Row (B : Nat) (W0 W : World) (bs : List Value) (v : Value) (n : Nat) : Prop where
  own : ∃ ys, W.ownsRow B 5 1 v n (bs ++ ys)
  below : Below B W0 W
  base : B ≤ W.heap.size

theorem Row.alloc {B : Nat} {W0 W : World} {bs : List Value} {v : Value} {n : Nat} (h : Row B W0 W bs v n) (o : Obj) : Row B W0 (W.alloc o) bs v n := by
  obtain ⟨ys, hy⟩ := h.own
  exact ⟨⟨ys, hy.alloc o⟩, h.below.alloc h.base o, by simp; have := h.base; omega⟩
theorem Row.drew {B : Nat} {W0 W : World} {bs : List Value} {v : Value} {n : Nat} (h : Row B W0 W bs v n) : Row B W0 W.drew bs v n := by
  obtain ⟨ys, hy⟩ := h.own
  exact ⟨⟨ys, hy.drew⟩, h.below.drew, h.base⟩

/-- One byte in a block of its own: what is appended. -/
def Src (W : World) (gs : Nat) : Prop := ∃ x : Int, W.heap[gs]? = some (.cells #[.int .u8 x] 5 (0, 0))
theorem Src.new (W : World) (x : Int) {gs : Nat} (h : gs = W.heap.size) : Src (W.alloc (.cells #[.int .u8 x] 5)) gs := by
  subst h; exact ⟨x, heap_alloc_new W _⟩
theorem Src.alloc {W : World} {gs : Nat} (h : Src W gs) (o : Obj) : Src (W.alloc o) gs := by
  obtain ⟨x, hx⟩ := h
  have hlt : gs < W.heap.size := by
    rcases Nat.lt_or_ge gs W.heap.size with h | h
    · exact h
    · rw [Array.getElem?_eq_none h] at hx; cases hx
  exact ⟨x, (heap_alloc_old W o hlt).trans hx⟩
theorem Src.drew {W : World} {gs : Nat} (h : Src W gs) : Src W.drew gs := h
theorem Src.lt {W : World} {gs : Nat} (h : Src W gs) : gs < W.heap.size := by
  obtain ⟨x, hx⟩ := h
  rcases Nat.lt_or_ge gs W.heap.size with h | h
  · exact h
  · rw [Array.getElem?_eq_none h] at hx; cases hx
theorem Src.kept {W w' : World} {gs : Nat} {row : Option Nat} (h : Src W gs) (hg : W.grownBy w' row) (hne : row ≠ some gs) : Src w' gs := by
  have hlt := h.lt
  obtain ⟨x, hx⟩ := h
  exact ⟨x, (hg.block gs hlt (fun e => hne e.symm)).trans hx⟩
theorem Src.cell {W : World} {gs : Nat} (h : Src W gs) : ∃ x : Int, ∀ j u, ([.int .u8 x] : List Value)[j]? = some u → W.cell? ((⟨gs, 0, none⟩ : Addr).add j) = some u := by
  obtain ⟨x, hx⟩ := h
  refine ⟨x, fun j u hj => ?_⟩
  match j, hj with
  | 0, hj =>
    simp at hj
    subst hj
    rw [WideShapes.add_plain]
    simp [World.cell?, hx]

/-- What the first append onto a tight slice leaves. -/
structure Out1 (B : Nat) (W0 W : World) (bs : List Value) (n' : Nat) (v' : Value) (w' : World) : Prop where
  row : Row B W0 w' bs v' n'
  grown : W.grownBy w' none
  far : ∀ gs, gs < W.heap.size → v'.ownBlock ≠ some gs
/-- What a later append leaves. -/
structure Out2 (B : Nat) (W0 W : World) (bs : List Value) (v : Value) (n' : Nat) (v' : Value) (w' : World) : Prop where
  row : Row B W0 w' bs v' n'
  grown : W.grownBy w' v.ownBlock

theorem own_base {w : World} {B B' : Nat} {v : Value} {n : Nat} {xs : List Value} (h : w.ownsRow B' 5 1 v n xs) (hB : B ≤ B') : w.ownsRow B 5 1 v n xs := by
  refine ⟨h.1, ?_⟩
  rcases h.2 with h | ⟨g, cap, cur, h1, h2, h3⟩
  · exact .inl h
  · exact .inr ⟨g, cap, cur, h1, Nat.le_trans hB h2, h3⟩

theorem out1_of {B : Nat} {W0 W w' : World} {bs news : List Value} {n : Nat} {v' : Value} (hb : Below B W0 W) (hB : B ≤ W.heap.size) (h2 : w'.ownsRow W.heap.size 5 1 v' n (bs ++ news)) (h3 : W.grownBy w' none) : Out1 B W0 W bs n v' w' := by
  refine ⟨⟨⟨news, own_base h2 hB⟩, hb.grown h3 hB (fun k h => by cases h), Nat.le_trans hB h3.size⟩, h3, fun gs hgs e => ?_⟩
  have := (h2.lt gs e).1
  omega

theorem run_tight_byte (B : Nat) (W0 W : World) (ao : Option Addr) (bs : List Value) (ty : TypeId) (gs : Nat) (hb : Below B W0 W) (hB : B ≤ W.heap.size) (h : Tight W ao bs) (hs : Src W gs) (hn : bs.length ≤ 4194304) :
    ∃ v' w', (Builtin.append_ #[24, 24] ty #[.slice ao bs.length bs.length, .slice (some ⟨gs, 0, none⟩) 1 1]).run Try.prog W = .ok v' w' ∧ Out1 B W0 W bs (bs.length + 1) v' w' := by
  obtain ⟨i0, hi, hz0, hz1, hz2⟩ := info_parts Try.info5
  obtain ⟨x, hx⟩ := hs.cell
  have hml : bs.length + 1 ≤ maxLen := by unfold maxLen; omega
  rcases h with ⟨rfl, rfl⟩ | ⟨g, rfl, _, hc⟩
  · obtain ⟨v', w', h1, h2, h3, _⟩ := run_append_own (P := Try.prog) W W.heap.size 24 ty 5 i0 (.int .u8 0) 1 1 Try.underlying24 hi hz0 hz1 hz2 rfl (by decide) (.slice none 0 0) 0 [] (World.ownsRow_nil W _ 5 1) ⟨gs, 0, none⟩ 1 1 [.int .u8 x] rfl hx (by intro u hu; simp at hu; subst hu; rfl) (by simpa using hml) (by omega) (Nat.le_refl _)
    exact ⟨v', w', h1, out1_of hb hB (by simpa using h2) h3⟩
  · obtain ⟨v', w', h1, h2, h3⟩ := run_append_arg_grows (P := Try.prog) W 24 ty 5 i0 (.int .u8 0) 1 1 Try.underlying24 hi hz0 hz1 hz2 rfl (by decide) ⟨g, 0, none⟩ bs.length bs.length bs (by omega)
      (fun j u hj => by rw [WideShapes.add_plain, Nat.zero_add]; exact hc j u hj) ⟨gs, 0, none⟩ 1 1 [.int .u8 x] rfl hx (by omega) hml (by omega)
    exact ⟨v', w', h1, out1_of hb hB h2 h3⟩

theorem run_tight_str (B : Nat) (W0 W : World) (ao : Option Addr) (bs : List Value) (ty : TypeId) (s : ByteArray) (hb : Below B W0 W) (hB : B ≤ W.heap.size) (h : Tight W ao bs) (h0 : 0 < s.size) (hn : bs.length + s.size ≤ 4194304) :
    ∃ v' w', (Builtin.append_ #[24, 9] ty #[.slice ao bs.length bs.length, .string s]).run Try.prog W = .ok v' w' ∧ Out1 B W0 W bs (bs.length + s.size) v' w' ∧ w'.ownsRow B 5 1 v' (bs.length + s.size) (bs ++ Lib.strCells s) := by
  obtain ⟨i0, hi, hz0, hz1, hz2⟩ := info_parts Try.info5
  have hml : bs.length + s.size ≤ maxLen := by unfold maxLen; omega
  rcases h with ⟨rfl, rfl⟩ | ⟨g, rfl, _, hc⟩
  · obtain ⟨v', w', h1, h2, h3, _⟩ := Lib.run_append_own_string (P := Try.prog) W W.heap.size 24 9 ty 5 i0 Try.underlying24 Try.underlying9 hi hz0 hz1 hz2 (.slice none 0 0) 0 [] (World.ownsRow_nil W _ 5 1) s (by simpa using hml) (by simp at hn; omega) (Nat.le_refl _)
    have h2' : w'.ownsRow W.heap.size 5 1 v' (([] : List Value).length + s.size) ([] ++ Lib.strCells s) := h2
    exact ⟨v', w', h1, out1_of hb hB h2' h3, own_base h2' hB⟩
  · have hlen : (bs ++ Lib.strCells s).length = (bs.length + s.size) * 1 := by rw [List.length_append, Lib.strCells_length, Nat.mul_one]
    have hge := grownCap_ge W (bs.length + s.size) bs.length 5
    have hcm : grownCap W (bs.length + s.size) bs.length 5 ≤ maxLen := grownCap_le_maxLen W (bs.length + s.size) bs.length 5 hml
    have hr := Lib.run_append_grow_string (P := Try.prog) W 24 9 ty 5 i0 (.int .u8 0) Try.underlying24 Try.underlying9 hi hz0 ⟨g, 0, none⟩ bs.length bs.length bs (by rw [hz1]; omega)
      (fun j u hj => by rw [WideShapes.add_plain, Nat.zero_add]; exact hc j u hj) s (by omega) (by omega) (by rw [hz2]; exact growslice_fits (by omega) (by omega))
    have h2 : (W.drew.alloc (.cells (bs.toArray ++ (Lib.strCells s).toArray ++ Builtin.zeroCells (Value.int .u8 0).cells (grownCap W (bs.length + s.size) bs.length 5 - (bs.length + s.size))) 5)).ownsRow W.heap.size 5 1
        (.slice (some ⟨W.heap.size, 0, none⟩) (bs.length + s.size) (grownCap W (bs.length + s.size) bs.length 5)) (bs.length + s.size) (bs ++ Lib.strCells s) := by
      refine ⟨hlen, .inr ⟨W.heap.size, _, _, rfl, Nat.le_refl _, heap_alloc_new W.drew _, hge, hcm, ?_, ?_⟩⟩
      · have hz1 : (Value.int IntKind.u8 0).cells.size = 1 := rfl
        simp only [Array.size_append, List.size_toArray, size_zeroCells, hz1, Lib.strCells_length]
        omega
      · simp only [Array.toList_append, List.append_assoc]
        rw [← List.append_assoc, ← hlen]
        exact List.take_left
    have h3 : W.grownBy (W.drew.alloc (.cells (bs.toArray ++ (Lib.strCells s).toArray ++ Builtin.zeroCells (Value.int .u8 0).cells (grownCap W (bs.length + s.size) bs.length 5 - (bs.length + s.size))) 5)) none :=
      ⟨rfl, rfl, rfl, by simp, fun k hk _ => heap_alloc_old W.drew _ hk⟩
    exact ⟨_, _, hr, out1_of hb hB h2 h3, own_base h2 hB⟩

theorem run_row_byte (B : Nat) (W0 W : World) (bs : List Value) (v : Value) (n : Nat) (ty : TypeId) (gs : Nat) (h : Row B W0 W bs v n) (hs : Src W gs) (hn : n ≤ 67108864) :
    ∃ v' w', (Builtin.append_ #[24, 24] ty #[v, .slice (some ⟨gs, 0, none⟩) 1 1]).run Try.prog W = .ok v' w' ∧ Out2 B W0 W bs v (n + 1) v' w' := by
  obtain ⟨i0, hi, hz0, hz1, hz2⟩ := info_parts Try.info5
  obtain ⟨x, hx⟩ := hs.cell
  obtain ⟨ys, hy⟩ := h.own
  have hml : n + 1 ≤ maxLen := by unfold maxLen; omega
  obtain ⟨v', w', h1, h2, h3, _⟩ := run_append_own (P := Try.prog) W B 24 ty 5 i0 (.int .u8 0) 1 1 Try.underlying24 hi hz0 hz1 hz2 rfl (by decide) v n _ hy ⟨gs, 0, none⟩ 1 1 [.int .u8 x] rfl hx (by intro u hu; simp at hu; subst hu; rfl) hml (by omega) h.base
  refine ⟨v', w', h1, ⟨⟨ys ++ [.int .u8 x], by rw [← List.append_assoc]; exact h2⟩, h.below.grown h3 h.base (fun k hk => (hy.lt k hk).1), Nat.le_trans h.base h3.size⟩, h3⟩

/-- Several bytes in a block of their own. -/
theorem run_row_bytes (B : Nat) (W0 W : World) (bs : List Value) (v : Value) (n : Nat) (ty : TypeId) (ad : Addr) (m c : Nat) (news : List Value) (h : Row B W0 W bs v n) (hl : news.length = m) (hx : ∀ j u, news[j]? = some u → W.cell? (ad.add j) = some u) (h1c : ∀ u ∈ news, u.oneCell' = true) (hn : n + m ≤ 67108864) :
    ∃ v' w', (Builtin.append_ #[24, 24] ty #[v, .slice (some ad) m c]).run Try.prog W = .ok v' w' ∧ Out2 B W0 W bs v (n + m) v' w' := by
  obtain ⟨i0, hi, hz0, hz1, hz2⟩ := info_parts Try.info5
  obtain ⟨ys, hy⟩ := h.own
  have hml : n + m ≤ maxLen := by unfold maxLen; omega
  obtain ⟨v', w', h1, h2, h3, _⟩ := run_append_own (P := Try.prog) W B 24 ty 5 i0 (.int .u8 0) 1 1 Try.underlying24 hi hz0 hz1 hz2 rfl (by decide) v n _ hy ad m c news (by omega) hx h1c hml (by omega) h.base
  refine ⟨v', w', h1, ⟨⟨ys ++ news, by rw [← List.append_assoc]; exact h2⟩, h.below.grown h3 h.base (fun k hk => (hy.lt k hk).1), Nat.le_trans h.base h3.size⟩, h3⟩

theorem run_row_str (B : Nat) (W0 W : World) (bs : List Value) (v : Value) (n : Nat) (ty : TypeId) (s : ByteArray) (h : Row B W0 W bs v n) (hn : n + s.size ≤ 67108864) :
    ∃ v' w', (Builtin.append_ #[24, 9] ty #[v, .string s]).run Try.prog W = .ok v' w' ∧ Out2 B W0 W bs v (n + s.size) v' w' := by
  obtain ⟨i0, hi, hz0, hz1, hz2⟩ := info_parts Try.info5
  obtain ⟨ys, hy⟩ := h.own
  have hml : n + s.size ≤ maxLen := by unfold maxLen; omega
  obtain ⟨v', w', h1, h2, h3, _⟩ := Lib.run_append_own_string (P := Try.prog) W B 24 9 ty 5 i0 Try.underlying24 Try.underlying9 hi hz0 hz1 hz2 v n _ hy s hml (by omega) h.base
  refine ⟨v', w', h1, ⟨⟨ys ++ Lib.strCells s, by rw [← List.append_assoc]; exact h2⟩, h.below.grown h3 h.base (fun k hk => (hy.lt k hk).1), Nat.le_trans h.base h3.size⟩, h3⟩

/-- A row of two elements or more is no block of one cell. -/
theorem Row.ne_src {B : Nat} {W0 W : World} {bs : List Value} {v : Value} {n : Nat} (h : Row B W0 W bs v n) (hn : 2 ≤ n) {gs : Nat} (hs : Src W gs) : v.ownBlock ≠ some gs := by
  intro e
  obtain ⟨ys, hy⟩ := h.own
  obtain ⟨x, hx⟩ := hs
  rcases hy.2 with ⟨_, h0⟩ | ⟨g, cap, cur, rfl, _, hg, hc, _, hsz, _⟩
  · omega
  · have : g = gs := by simpa [Value.ownBlock] using e
    subst this
    rw [hg] at hx
    have : cur = #[.int .u8 x] := by simpa using congrArg (fun o => match o with | some (.cells c _ _) => c | _ => #[]) hx
    rw [this] at hsz
    simp at hsz
    omega
/-- A row owned now is no block that comes later. -/
theorem Row.ne_new {B : Nat} {W0 W : World} {bs : List Value} {v : Value} {n : Nat} (h : Row B W0 W bs v n) {gs : Nat} (hgs : W.heap.size ≤ gs) : v.ownBlock ≠ some gs := by
  intro e
  obtain ⟨ys, hy⟩ := h.own
  have := (hy.lt gs e).2
  omega

/-! ### the forms for the walk -/
theorem list_append {w : World} {ops : Array Oper} {rest : List Oper} {o : Oper} {a : Act} {Q : Exit → Act → World → Prop} (hgd : o.guard = none) (s x : Operand) (t u : TypeId)
    (ho : o.op = .call { callee := .builtin .append, args := #[s, x], argTypes := #[t, u] }) {v1 v2 : Value} (hs : a.eval s = v1) (hx : a.eval x = v2) {R : Value → World → Prop}
    (hrun : ∃ v' w', (Builtin.append_ #[t, u] o.type #[v1, v2]).run Try.prog w = .ok v' w' ∧ R v' w')
    (h : ∀ v' w', R v' w' → wpList Try.prog ops Q rest (a.put o.dst v') w') : wpList Try.prog ops Q (o :: rest) a w := by
  refine wpList_plain hgd fun K hK => ?_
  obtain ⟨v', w', hr, h2⟩ := hrun
  unfold Oper.wp execOp
  simp only [ho, resolve, invoke, builtin, Sem.run_bind, Sem.run_pure, Result.andThen_ok, List.map_toArray, List.map_cons, List.map_nil, hs, hx, hr]
  exact hK _ _ (h v' w' h2)

theorem step_append {ops : Array Oper} {o : Oper} {a : Act} {w : World} {K : Act → World → Prop} {Q : Exit → Act → World → Prop} {E : Prop} (hg : o.guard = none) (s x : Operand) (t u : TypeId)
    (ho : o.op = .call { callee := .builtin .append, args := #[s, x], argTypes := #[t, u] }) {v1 v2 : Value} (hs : a.eval s = v1) (hx : a.eval x = v2) {R : Value → World → Prop}
    (hrun : ∃ v' w', (Builtin.append_ #[t, u] o.type #[v1, v2]).run Try.prog w = .ok v' w' ∧ R v' w')
    (h : ∀ v' w', R v' w' → K (a.put o.dst v') w') :
    if Region.wanted o (yielded ops a.tmps) = true then Oper.wp Try.prog o a w K Q else E := by
  have hw : Region.wanted o (yielded ops a.tmps) = true := by simp [Region.wanted, hg]
  rw [if_pos hw]
  obtain ⟨v', w', hr, h2⟩ := hrun
  unfold Oper.wp execOp
  simp only [ho, resolve, invoke, builtin, Sem.run_bind, Sem.run_pure, Result.andThen_ok, List.map_toArray, List.map_cons, List.map_nil, hs, hx, hr]
  exact h v' w' h2
end Go.Proofs.Qxb6609053a
