/-
  What the listed variables give the walks; what a slice of bytes that came in is.
-/
import Derived.Test.Qxb6612819aDoorGl
import Derived.ProofKit
import Derived.LaidLaws
import Derived.LaidMore
import Derived.OpenShut
import Derived.ChangeOld
import Derived.Below
import Derived.Stop.Joined
namespace Go.Proofs.Qxb6612819aDoor
open Go.ChangeShapes Go.WideShapes Go.ChangeAt Go.RowKit

theorem own : ownKnob Tryd.prog.godebug = none := by kernel_rfl
theorem laidOut : laidOutB Tryd.prog = true := by kernel_rfl
theorem gEOF : Tryd.prog.globalNamed "io.EOF" = some 1 := by kernel_rfl
theorem gNoP : Tryd.prog.globalNamed "io.ErrNoProgress" = some 3 := by kernel_rfl
theorem gFull : Tryd.prog.globalNamed "bufio.ErrBufferFull" = some 0 := by kernel_rfl
theorem gNeg : Tryd.prog.globalNamed "bufio.errNegativeRead" = some 2 := by kernel_rfl
theorem tEOF : (Tryd.prog.globals[1]?).map (·.type) = some 28 := by kernel_rfl
theorem tNoP : (Tryd.prog.globals[3]?).map (·.type) = some 28 := by kernel_rfl
theorem tFull : (Tryd.prog.globals[0]?).map (·.type) = some 28 := by kernel_rfl
theorem tNeg : (Tryd.prog.globals[2]?).map (·.type) = some 28 := by kernel_rfl
theorem cellsS : Tryd.prog.cellsOf 83 = 1 := by kernel_rfl
theorem cells9 : Tryd.prog.cellsOf 9 = 1 := by kernel_rfl
theorem star : "*" ++ "errors.errorString" = "*errors.errorString" := by decide
theorem row65 (u : TypeId) (h : Tryd.prog.typeName? 3 u = some "*errors.errorString") : u = 65 :=
  typeName_ptr_named (nm := "errors.errorString") (by rw [star]; kernel_rfl) (by kernel_rfl) (by decide) u (by rw [star]; exact h)

/-- What the rows list of the four variables. -/
def laid4 : List (String × DataW Unit) := [("io.EOF", Rows.laid_io_EOF), ("io.ErrNoProgress", Rows.laid_io_ErrNoProgress), ("bufio.ErrBufferFull", Rows.laid_bufio_ErrBufferFull), ("bufio.errNegativeRead", Rows.laid_bufio_errNegativeRead)]

theorem gl_of_laid {W : World} (h : laidMetH Tryd.prog laid4 W) : ∃ ea fa, Gl W ea fa := by
  rw [MakeChecks.laidMetH_plain _ _ _ (by kernel_rfl)] at h
  obtain ⟨ps, ⟨g0, t0, cs0, f0, p0, q0, hg0, ht0, hv0, hd0, ⟨g1, t1, cs1, f1, p1, q1, hg1, ht1, hv1, hd1, ⟨g2, t2, cs2, f2, p2, q2, hg2, ht2, hv2, hd2, ⟨g3, t3, cs3, f3, p3, q3, hg3, ht3, hv3, hd3, hq3, e3⟩, e2⟩, e1⟩, e0⟩, hnd, hrows⟩ := h
  obtain rfl := Option.some.inj (gEOF.symm.trans hg0)
  obtain rfl := Option.some.inj (gNoP.symm.trans hg1)
  obtain rfl := Option.some.inj (gFull.symm.trans hg2)
  obtain rfl := Option.some.inj (gNeg.symm.trans hg3)
  obtain rfl := Option.some.inj (tEOF.symm.trans ht0)
  obtain rfl := Option.some.inj (tNoP.symm.trans ht1)
  obtain rfl := Option.some.inj (tFull.symm.trans ht2)
  obtain rfl := Option.some.inj (tNeg.symm.trans ht3)
  have hq3' : q3 = [] := hq3
  subst hq3'
  subst e3
  subst e2
  subst e1
  subst e0
  obtain ⟨l0⟩ := cs0
  obtain ⟨l2⟩ := cs2
  have ok0 : ∀ u v, l0 = [.iface u v] → Value.okWide Tryd.prog W .any 0 u v := fun u v e => by
    subst e
    exact (hrows 1 0 (by simp [MemPlace.row])).2 u v (by simpa using World.var?_cell hg0 hv0 0)
  have ok2 : ∀ u v, l2 = [.iface u v] → Value.okWide Tryd.prog W .any 0 u v := fun u v e => by
    subst e
    exact (hrows 0 0 (by simp [MemPlace.row])).2 u v (by simpa using World.var?_cell hg2 hv2 0)
  obtain ⟨a0, s0, rfl, hc0, hs0, hz0, rfl⟩ := errorString_of_trod Tryd.underlying28 row65 Tryd.underlying65 Tryd.underlying83 rfl rfl Tryd.underlying9 cellsS cells9 hd0 ok0
  obtain ⟨a2, s2, rfl, hc2, hs2, hz2, rfl⟩ := errorString_of_trod Tryd.underlying28 row65 Tryd.underlying65 Tryd.underlying83 rfl rfl Tryd.underlying9 cellsS cells9 hd2 ok2
  obtain ⟨c0, t0, hb0⟩ := (hrows a0.block a0.off (by simp [MemPlace.row])).1
  obtain ⟨c2, t2, hb2⟩ := (hrows a2.block a2.off (by simp [MemPlace.row])).1
  refine ⟨a0, a2, by simpa using World.var?_cell gEOF hv0 0, by simpa using World.var?_cell gFull hv2 0, ⟨c0, t0, hb0⟩, ⟨c2, t2, hb2⟩, ?_⟩
  rintro rfl
  simp [MemPlace.row] at hnd

/-- The door's own heap meets the condition. -/
theorem door_met (os : Os) (args : Array Value) : laidMetH Tryd.prog laid4 ((World.doorLaid Tryd.prog 400 os).forCall (fun _ _ => 0) ⟨#[], args, []⟩).memory :=
  laidMetH_of_parts3 (fuel := 8) (laidMet_of_run' 8 (by kernel_rfl) (by kernel_rfl)) (by kernel_rfl) (by kernel_rfl)

/-- A slice of bytes that came in: nil; or a row of 'cap' cells. -/
def IsRow (w : World) (a : Option Addr) (len cap : Nat) (zs : List Int) : Prop :=
  (a = none ∧ len = 0 ∧ cap = 0 ∧ zs = []) ∨
  ∃ x, a = some x ∧ len ≤ cap ∧ cap ≤ maxLen ∧ zs.length = cap ∧ (∀ i, i < zs.length → w.cell? (x.add i) = some (.int .u8 (zs.getD i 0))) ∧ ∀ n ∈ zs, (Lit.int .u8 n).wf = true

theorem add_at (b o i : Nat) : Addr.add ⟨b, o, none⟩ i = ⟨b, o + i, none⟩ := by
  unfold Addr.add
  by_cases h : i = 0 <;> simp [h]
theorem bs_of {w : World} {a : Option Addr} {len cap : Nat} {zs : List Int} (h : IsRow w a len cap zs) : ∃ xs : List Int, xs.length = len ∧ Bs w a xs ∧ Bytes xs ∧ (a = none → xs = [] ∧ cap = 0) ∧ len ≤ 9223372036854775807 := by
  rcases h with ⟨rfl, rfl, rfl, rfl⟩ | ⟨x, rfl, hl, hm, hz, hc, hw⟩
  · exact ⟨[], rfl, .inl rfl, (fun x hx => by cases hx), (fun _ => ⟨rfl, rfl⟩), by omega⟩
  · have hlen : (zs.take len).length = len := by rw [List.length_take]; omega
    refine ⟨zs.take len, hlen, ?_, ?_, (fun h => by cases h), by unfold maxLen at hm; omega⟩
    · by_cases h0 : len = 0
      · exact .inl (List.eq_nil_of_length_eq_zero (by omega))
      · obtain ⟨b, off, spot⟩ := x
        have hc0 := hc 0 (by omega)
        have hspot : spot = none := by simpa [Addr.add] using World.cell?_spot hc0
        subst hspot
        have hb : b < w.heap.size := by
          refine Nat.lt_of_not_le fun hge => ?_
          simp [Addr.add, World.cell?, Array.getElem?_eq_none hge] at hc0
        refine .inr ⟨b, off, rfl, hb, fun j hj => ?_⟩
        rw [hlen] at hj
        have h1 := hc j (by omega)
        rw [add_at] at h1
        rw [h1]
        simp [List.getD_eq_getElem?_getD, hj]
    · intro y hy
      have := hw y (List.mem_of_mem_take hy)
      simp [Lit.wf] at this
      have e1 : IntKind.u8.min = 0 := by decide
      have e2 : IntKind.u8.max = 255 := by decide
      omega

theorem open_row22 {H : Type} {enc : TypeId × Value → H} {W : World} {base : Nat} {held : Bool} {a : Option Addr} {len cap : Nat} {d : DataW H} {p : List MemPlace} (h : DataW.Trod enc Tryd.prog W base (fun _ => true) held 22 (.slice a len cap) d p) : ∃ zs, IsRow W a len cap zs := by
  obtain ⟨fuel, hf⟩ := h
  rcases open_ints Tryd.underlying22 Tryd.underlying5 (by kernel_rfl) hf with ⟨hcs, _⟩ | ⟨x, l, c, zs, hcs, _, hl, hm, hz, _, hcell, hwz⟩
  · simp [Value.cells] at hcs
    obtain ⟨rfl, rfl, rfl⟩ := hcs
    exact ⟨[], .inl ⟨rfl, rfl, rfl, rfl⟩⟩
  · simp [Value.cells] at hcs
    obtain ⟨rfl, rfl, rfl⟩ := hcs
    exact ⟨zs, .inr ⟨_, rfl, hl, hm, by simpa using hz, hcell, hwz⟩⟩
end Go.Proofs.Qxb6612819aDoor
