/-
  Memory, in the words of this seat's walks: blocks that are known whole; worlds that are as they were but for three blocks.
-/
import Derived.Test.Qxb6612819aDoorRows
import Derived.WalkKit
import Derived.WalkSpells
import Derived.WalkLawsBesides
import Derived.Deep.QuietTactic
import Derived.BigQuiet
import Derived.Deep.RegionWith
import Derived.Deep.RegionLaw
import Derived.Laws.CopyOwn
import Derived.WideShapes
namespace Go.Proofs.Qxb6612819aDoor
open Go.RowKit

/-- A block of cells that is known whole. -/
def Blk (W : World) (b : Nat) (cs : Array Value) (t : TypeId) : Prop := W.heap[b]? = some (.cells cs t (0, 0))

theorem Blk.cell {W : World} {b : Nat} {cs : Array Value} {t : TypeId} (h : Blk W b cs t) (j : Nat) : W.cell? ⟨b, j, none⟩ = cs[j]? := by
  unfold Blk at h
  simp [World.cell?, h]
theorem Blk.free {W : World} {b : Nat} {cs : Array Value} {t : TypeId} (h : Blk W b cs t) (j : Nat) : W.frozen? ⟨b, j, none⟩ = false := by
  unfold Blk at h
  simp [World.frozen?, h]
theorem Blk.lt {W : World} {b : Nat} {cs : Array Value} {t : TypeId} (h : Blk W b cs t) : b < W.heap.size := by
  rcases Nat.lt_or_ge b W.heap.size with h1 | h1
  · exact h1
  · unfold Blk at h; rw [Array.getElem?_eq_none h1] at h; cases h

/-- W' is W but for the blocks of S and for new blocks. -/
structure Keep (S : Nat → Prop) (W W' : World) : Prop where
  os : W'.os = W.os
  tape : W'.tape = W.tape
  output : W'.output = W.output
  size : W.heap.size ≤ W'.heap.size
  block : ∀ k, k < W.heap.size → ¬ S k → W'.heap[k]? = W.heap[k]?

theorem Keep.refl (S : Nat → Prop) (W : World) : Keep S W W := ⟨rfl, rfl, rfl, Nat.le_refl _, fun _ _ _ => rfl⟩
theorem Keep.trans {S : Nat → Prop} {a b c : World} (h : Keep S a b) (k : Keep S b c) : Keep S a c :=
  ⟨k.os.trans h.os, k.tape.trans h.tape, k.output.trans h.output, Nat.le_trans h.size k.size, fun i hi hn => (k.block i (Nat.lt_of_lt_of_le hi h.size) hn).trans (h.block i hi hn)⟩
theorem Keep.mono {S T : Nat → Prop} {a b : World} (h : Keep S a b) (hST : ∀ k, k < a.heap.size → S k → T k) : Keep T a b :=
  ⟨h.os, h.tape, h.output, h.size, fun i hi hn => h.block i hi (fun hs => hn (hST i hi hs))⟩
theorem Keep.drewN {S : Nat → Prop} {a b : World} (h : Keep S a b) (n : Nat) : Keep S a (b.drewN n) := ⟨h.os, h.tape, h.output, h.size, h.block⟩
theorem Keep.drew {S : Nat → Prop} {a b : World} (h : Keep S a b) : Keep S a b.drew := ⟨h.os, h.tape, h.output, h.size, h.block⟩
theorem Keep.setCell {S : Nat → Prop} {a b : World} (h : Keep S a b) (p : Addr) (v : Value) (hp : S p.block) : Keep S a (b.setCell p v) :=
  ⟨h.os, h.tape, h.output, by rw [World.size_setCell]; exact h.size, fun i hi hn => (Below.heap_setCell b p v i (fun e => hn (e ▸ hp))).trans (h.block i hi hn)⟩
theorem Keep.alloc {S : Nat → Prop} {a b : World} (h : Keep S a b) (o : Obj) : Keep S a (b.alloc o) :=
  ⟨h.os, h.tape, h.output, by rw [World.size_alloc]; have := h.size; omega, fun i hi hn => (Below.heap_alloc b o i (Nat.lt_of_lt_of_le hi h.size)).trans (h.block i hi hn)⟩
theorem Keep.below {S : Nat → Prop} {a b : World} (h : Keep S a b) {B : Nat} (hB : B ≤ a.heap.size) (hS : ∀ k, k < B → ¬ S k) : Below B a b :=
  ⟨h.os, h.tape, h.output, h.size, fun k hk => h.block k (Nat.lt_of_lt_of_le hk hB) (hS k hk)⟩
theorem Keep.of_below {S : Nat → Prop} {a b : World} (h : Below a.heap.size a b) : Keep S a b := ⟨h.os, h.tape, h.output, h.size, fun k hk _ => h.block k hk⟩
theorem Keep.blk {S : Nat → Prop} {a b : World} (h : Keep S a b) {k : Nat} {cs : Array Value} {t : TypeId} (hb : Blk a k cs t) (hS : ¬ S k) : Blk b k cs t :=
  (h.block k hb.lt hS).trans hb
theorem Keep.cell {S : Nat → Prop} {a b : World} (h : Keep S a b) {p : Addr} {v : Value} (hc : a.cell? p = some v) (hS : ¬ S p.block) : b.cell? p = some v := by
  have hlt : p.block < a.heap.size := by
    rcases Nat.lt_or_ge p.block a.heap.size with h1 | h1
    · exact h1
    · simp [World.cell?, Array.getElem?_eq_none h1] at hc
  rw [World.cell?_of_block (h.block p.block hlt hS)]; exact hc

theorem Blk.setCell {W : World} {b : Nat} {cs : Array Value} {t : TypeId} (h : Blk W b cs t) (j : Nat) (v : Value) : Blk (W.setCell ⟨b, j, none⟩ v) b (cs.setIfInBounds j v) t := by
  unfold Blk at h ⊢
  simp [World.setCell, Array.getElem?_modify, h]
theorem Blk.setOther {W : World} {b : Nat} {cs : Array Value} {t : TypeId} (h : Blk W b cs t) (p : Addr) (v : Value) (hne : p.block ≠ b) : Blk (W.setCell p v) b cs t :=
  (Below.heap_setCell W p v b (fun e => hne e.symm)).trans h
theorem Blk.drewN {W : World} {b : Nat} {cs : Array Value} {t : TypeId} (h : Blk W b cs t) (n : Nat) : Blk (W.drewN n) b cs t := h
theorem Blk.drew {W : World} {b : Nat} {cs : Array Value} {t : TypeId} (h : Blk W b cs t) : Blk W.drew b cs t := h

/-- 'copy(dst, src)', dst in the block g: what is left. -/
structure Copied (W W' : World) (g : Nat) (cur : List Value) (off : Nat) (cs : List Value) (t : TypeId) : Prop where
  blk : Blk W' g (splice cur off cs).toArray t
  keep : Keep (· = g) W W'

theorem run_copy_blk (W : World) (ty : TypeId) (dp sp : Option Addr) (dLen dCap sLen sCap : Nat) (g off : Nat) (cur : List Value) (t : TypeId) (hg : Blk W g cur.toArray t) (cs : List Value) (hn : cs.length = Nat.min sLen dLen)
    (hpos : 0 < cs.length → dp = some ⟨g, off, none⟩ ∧ ∃ ad, sp = some ad ∧ ∀ j v, cs[j]? = some v → W.cell? (ad.add j) = some v) (hfit : off + cs.length ≤ cur.length) (h1 : ∀ v ∈ cs, v.oneCell' = true) :
    ∃ v' w', (Builtin.copy_ #[22, 22] ty #[.slice dp dLen dCap, .slice sp sLen sCap]).run Tryd.prog W = .ok v' w' ∧ v' = goInt cs.length ∧ Copied W w' g cur off cs t := by
  have hsz : (Tryd.prog.info? 5).map (·.size) = some 1 := by kernel_rfl
  by_cases h0 : cs.length = 0
  · obtain rfl : cs = [] := List.eq_nil_of_length_eq_zero h0
    exact ⟨_, _, run_copy_none (P := Tryd.prog) W 22 22 ty 5 dp sp dLen dCap sLen sCap Tryd.underlying22 hsz (by simpa using hn.symm), rfl, by show Blk _ _ _ _; simpa [splice] using hg, Keep.refl _ _⟩
  · obtain ⟨rfl, ad, rfl, hsrc⟩ := hpos (by omega)
    refine ⟨_, _, run_copy_row (P := Tryd.prog) W 22 22 ty 5 g off dLen dCap ad sLen sCap cur.toArray t cs Tryd.underlying22 hsz hg hn hsrc (by simpa using hfit) h1, rfl, ?_, ?_⟩
    · show Blk _ _ _ _
      unfold Blk
      rw [setRow_heap W g _ _ t _ hg]
      simp [splice]
    · exact ⟨rfl, rfl, rfl, by simp [World.setRow], fun k _ hk => setRow_other W g k _ (fun e => hk e)⟩

theorem step_copy {ops : Array Oper} {o : Oper} {a : Act} {w : World} {K : Act → World → Prop} {Q : Exit → Act → World → Prop} {E : Prop} (hg : o.guard = none) (s x : Operand)
    (ho : o.op = .call { callee := .builtin .copy, args := #[s, x], argTypes := #[22, 22] }) {v1 v2 : Value} (hs : a.eval s = v1) (hx : a.eval x = v2) {R : Value → World → Prop}
    (hrun : ∃ v' w', (Builtin.copy_ #[22, 22] o.type #[v1, v2]).run Tryd.prog w = .ok v' w' ∧ R v' w')
    (h : ∀ v' w', R v' w' → K (a.put o.dst v') w') :
    if Region.wanted o (yielded ops a.tmps) = true then Oper.wp Tryd.prog o a w K Q else E := by
  have hw : Region.wanted o (yielded ops a.tmps) = true := by simp [Region.wanted, hg]
  rw [if_pos hw]
  obtain ⟨v', w', hr, h2⟩ := hrun
  unfold Oper.wp execOp
  simp only [ho, resolve, invoke, builtin, Sem.run_bind, Sem.run_pure, Result.andThen_ok, List.map_toArray, List.map_cons, List.map_nil, hs, hx, hr]
  exact h v' w' h2
end Go.Proofs.Qxb6612819aDoor
