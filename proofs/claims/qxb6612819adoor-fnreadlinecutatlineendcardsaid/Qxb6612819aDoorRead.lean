/-
  (*bytes.Reader).Read (52).
-/
import Derived.Test.Qxb6612819aDoorMem
namespace Go.Proofs.Qxb6612819aDoor
open Go.RowKit

set_option maxHeartbeats 400000 in
theorem read_eof (R : Nat) (sa ua : Option Addr) (N m c : Nat) (pr : Int) (ev : Value) (W : World) (hR : Blk W R #[.slice sa N N, .int .i64 N, .int .i64 pr] 47) (he : W.cell? ⟨1, 0, none⟩ = some (.iface 65 ev)) :
    Calls Tryd.prog 52 #[.pointer (some ⟨R, 0, none⟩), .slice ua m c] W fun e W' => e = .returned (.tuple #[.int .i64 0, .iface 65 ev]) ∧ ∃ q, W' = W.drewN q := by
  have c0 : W.cell? ⟨R, 0, none⟩ = some (.slice sa N N) := hR.cell 0
  have c1 : W.cell? ⟨R, 1, none⟩ = some (.int .i64 N) := hR.cell 1
  clear hR
  go_enter Tryd.func52, Tryd.ntmps52
  go_wp2
  go_quiet (fail)
  go_wp2
  go_quiet (fail)
  go_wp2
  go_ret2
  exact ⟨rfl, _, World.drewN_drewN _ _ _⟩

/-- The bytes of the source. -/
def Sd (W : World) (sa : Option Addr) (ds : List Int) (S : Nat → Prop) : Prop :=
  ds = [] ∨ ∃ D, sa = some ⟨D, 0, none⟩ ∧ ¬ S D ∧ ∀ j, j < ds.length → W.cell? ⟨D, j, none⟩ = some (.int .u8 (ds.getD j 0))

def iv (n : Int) : Value := .int .u8 n

/-- What Read leaves. -/
structure ReadOut (R U : Nat) (sa : Option Addr) (N i off n : Nat) (ds : List Int) (cur : List Value) (W W' : World) : Prop where
  hR : Blk W' R #[.slice sa N N, .int .i64 ((i + n : Nat) : Int), .int .i64 (-1)] 47
  hU : Blk W' U (splice cur off (((ds.drop i).take n).map iv)).toArray 5
  keep : Keep (fun k => k = R ∨ k = U) W W'

set_option maxHeartbeats 1000000 in
theorem read_some (R U D : Nat) (N i off m c n : Nat) (pr : Int) (ds : List Int) (cur : List Value) (W : World) (hN : N ≤ 4194304) (hdl : ds.length = N) (hlt : i < N) (hm : m ≤ 10000) (hnm : n = Nat.min (N - i) m) (hm0 : 0 < m) (hRU : R ≠ U) (hDU : D ≠ U) (hDR : D ≠ R)
    (hR : Blk W R #[.slice (some ⟨D, 0, none⟩) N N, .int .i64 i, .int .i64 pr] 47) (hU : Blk W U cur.toArray 5) (hfit : off + m ≤ cur.length)
    (hD : ∀ j, j < N → W.cell? ⟨D, j, none⟩ = some (.int .u8 (ds.getD j 0))) :
    Calls Tryd.prog 52 #[.pointer (some ⟨R, 0, none⟩), .slice (some ⟨U, off, none⟩) m c] W fun e W' => e = .returned (.tuple #[.int .i64 n, .nilIface]) ∧ ReadOut R U (some ⟨D, 0, none⟩) N i off n ds cur W W' := by
  have c0 : W.cell? ⟨R, 0, none⟩ = some (.slice (some ⟨D, 0, none⟩) N N) := hR.cell 0
  have c1 : W.cell? ⟨R, 1, none⟩ = some (.int .i64 i) := hR.cell 1
  have c2 : W.cell? ⟨R, 2, none⟩ = some (.int .i64 pr) := hR.cell 2
  have f2 := hR.free 2
  have f1 := hR.free 1
  have hi1 : (i : Int) ≤ (N : Int) := by omega
  have hi2 : (i : Int) < (N : Int) := by omega
  have hi0 : (0 : Int) ≤ (i : Int) := by omega
  have hNi : ¬ N = i := by omega
  go_enter Tryd.func52, Tryd.ntmps52
  go_wp2
  go_quiet (fail)
  go_wp2
  obtain ⟨W1, hW1⟩ : ∃ W1, (W.drewN nq).setCell ⟨R, 2, none⟩ (.int .i64 (-1)) = W1 := ⟨_, rfl⟩
  have hR1 : Blk W1 R #[.slice (some ⟨D, 0, none⟩) N N, .int .i64 i, .int .i64 (-1)] 47 := by rw [← hW1]; exact (hR.drewN nq).setCell 2 _
  have hU1 : Blk W1 U cur.toArray 5 := by rw [← hW1]; exact (hU.drewN nq).setOther _ _ hRU
  have hk1 : Keep (fun k => k = R ∨ k = U) W W1 := by rw [← hW1]; exact ((Keep.refl _ W).drewN nq).setCell _ _ (.inl rfl)
  have hD1 : ∀ j, j < N → W1.cell? ⟨D, j, none⟩ = some (.int .u8 (ds.getD j 0)) := fun j hj => hk1.cell (hD j hj) (fun h => h.elim hDR hDU)
  rw [hW1]
  clear hW1 c0 c1 c2 f2 f1 hD hR hU
  have c0 : W1.cell? ⟨R, 0, none⟩ = some (.slice (some ⟨D, 0, none⟩) N N) := hR1.cell 0
  have c1 : W1.cell? ⟨R, 1, none⟩ = some (.int .i64 i) := hR1.cell 1
  have hcl : (((ds.drop i).take n).map iv).length = Nat.min (N - i) m := by
    rw [List.length_map, List.length_take, List.length_drop, hdl, hnm]
    exact Nat.min_eq_left (Nat.min_le_left _ _)
  have hsrc : ∀ j v, (((ds.drop i).take n).map iv)[j]? = some v → W1.cell? ((⟨D, i, none⟩ : Addr).add j) = some v := by
    intro j v hj
    rw [WideShapes.add_plain]
    have hjl : j < n := by
      have := (List.getElem?_eq_some_iff.1 hj).1
      rw [hcl, ← hnm] at this; exact this
    have hle : n ≤ N - i := by rw [hnm]; exact Nat.min_le_left _ _
    rw [hD1 (i + j) (by omega)]
    rw [List.getElem?_map, List.getElem?_take, if_pos hjl, List.getElem?_drop, List.getElem?_eq_getElem (by omega)] at hj
    rw [List.getD_eq_getElem?_getD, List.getElem?_eq_getElem (by omega)]
    exact hj
  have hnle : n ≤ m := by rw [hnm]; exact Nat.min_le_right _ _
  have hone : ∀ v ∈ ((ds.drop i).take n).map iv, v.oneCell' = true := by
    intro v hv
    obtain ⟨x, _, rfl⟩ := List.mem_map.1 hv
    rfl
  have hnN : n ≤ N := by rw [hnm]; exact Nat.le_trans (Nat.min_le_left _ _) (Nat.sub_le _ _)
  obtain ⟨cs, hcs⟩ : ∃ cs, ((ds.drop i).take n).map iv = cs := ⟨_, rfl⟩
  rw [hcs] at hcl hsrc hone
  have HCS : Hid (((ds.drop i).take n).map iv = cs) := hcs
  have HCL : Hid (cs.length = Nat.min (N - i) m) := hcl
  have HCN : Hid (cs.length = n) := by show _ = _; rw [hcl, hnm]
  have HSRC : Hid (∀ j v, cs[j]? = some v → W1.cell? ((⟨D, i, none⟩ : Addr).add j) = some v) := hsrc
  clear hcs hcl hsrc hnm
  go_region_law (refine step_copy rfl (.tmp 20) (.tmp 29) rfl (v1 := .slice (some ⟨U, off, none⟩) m c) (v2 := .slice (some ⟨D, i, none⟩) (N - i) (N - i)) rfl rfl (run_copy_blk _ _ _ _ m c (N - i) (N - i) U off cur 5 hU1.drew cs HCL.out (fun _ => ⟨rfl, _, rfl, HSRC.out⟩) (by rw [HCN.out]; omega) hone) ?_; intro v2 w2 hC; obtain ⟨hv2, hC⟩ := hC; rw [HCN.out] at hv2; subst hv2)
  all_goals
    have hR2 : Blk w2 R #[.slice (some ⟨D, 0, none⟩) N N, .int .i64 i, .int .i64 (-1)] 47 := hC.keep.blk hR1.drew hRU
    have hU2 : Blk w2 U (splice cur off cs).toArray 5 := hC.blk
    have hk2 : Keep (fun k => k = R ∨ k = U) W w2 := hk1.drew.trans (hC.keep.mono (fun k _ h => .inr h))
    have g1 : w2.cell? ⟨R, 1, none⟩ = some (.int .i64 i) := hR2.cell 1
    have g2 := hR2.free 1
    have HO : Hid (ReadOut R U (some ⟨D, 0, none⟩) N i off n ds cur W (w2.setCell ⟨R, 1, none⟩ (.int .i64 ((i + n : Nat) : Int)))) := by
      refine ⟨?_, ?_, hk2.setCell _ _ (.inl rfl)⟩
      · exact hR2.setCell 1 _
      · rw [HCS.out]; exact hU2.setOther _ _ hRU
    clear hC hR2 hU2 hk2 hR1 hU1 hk1 hD1 HSRC hone c0 c1
    go_wp2
    go_ret2
    refine ⟨rfl, ?_⟩
    have e : ((i + n : Nat) : Int) = (i : Int) + (n : Int) := by omega
    rw [e] at HO
    exact HO.out
end Go.Proofs.Qxb6612819aDoor
