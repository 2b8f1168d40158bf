/-
  (*bufio.Reader).fill (27).
-/
import Derived.Test.Qxb6612819aDoorRead
import Derived.Deep.RegionHeld3
namespace Go.Proofs.Qxb6612819aDoor
open Go.RowKit

/-- The reader's three blocks: B the bufio.Reader, U its buffer, R the bytes.Reader over the source. -/
structure St (W : World) (C B U R : Nat) (sa : Option Addr) (N r w i : Nat) (ev : Value) (lb lr pr : Int) (cur : List Value) : Prop where
  hB : Blk W B #[.slice (some ⟨U, 0, none⟩) C C, .iface 38 (.pointer (some ⟨R, 0, none⟩)), .int .i64 r, .int .i64 w, ev, .int .i64 lb, .int .i64 lr] 44
  hR : Blk W R #[.slice sa N N, .int .i64 i, .int .i64 pr] 47
  hU : Blk W U cur.toArray 5
  len : cur.length = C
  BU : B ≠ U
  BR : B ≠ R
  RU : R ≠ U

/-- The three blocks of a reader. -/
def Three (B U R : Nat) (k : Nat) : Prop := k = B ∨ k = U ∨ k = R

theorem method_read (a : Addr) (w : World) : (method 191 38 (.pointer (some a)) "Read").run Tryd.prog w = .ok (52, .pointer (some a)) w := by kernel_rfl
theorem splice_length {α : Type} (c : List α) (o : Nat) (d : List α) (h : o + d.length ≤ c.length) : (splice c o d).length = c.length := by
  simp [splice]; omega

set_option maxRecDepth 20000 in
set_option maxHeartbeats 2000000 in
theorem fill_some0 (C B U R D : Nat) (N w i n : Nat) (lb lr pr : Int) (ds : List Int) (cur : List Value) (W : World) (hC : C ≤ 10000) (hN : N ≤ 4194304) (hdl : ds.length = N) (hlt : i < N) (hnm : n = Nat.min (N - i) (C - w)) (hDU : D ≠ U) (hDR : D ≠ R)
    (hD : ∀ j, j < N → W.cell? ⟨D, j, none⟩ = some (.int .u8 (ds.getD j 0)))
    (h : St W C B U R (some ⟨D, 0, none⟩) N 0 w i .nilIface lb lr pr cur) (hw : w < C) :
    Calls Tryd.prog 27 #[.pointer (some ⟨B, 0, none⟩)] W fun e W' => e = .returned (.tuple #[]) ∧ St W' C B U R (some ⟨D, 0, none⟩) N 0 (w + n) (i + n) .nilIface lb lr (-1) (splice cur w (((ds.drop i).take n).map iv)) ∧ Keep (Three B U R) W W' := by
  have n0 : (0 : Int) < (n : Int) := by rw [hnm]; have := Nat.min_def (n := N - i) (m := C - w); simp only [Nat.min] at *; rw [this]; split <;> omega
  have n1 : n ≤ C - w := by rw [hnm]; exact Nat.min_le_right _ _
  have n2 : ¬ (n : Int) < 0 := by omega
  have c0 : W.cell? ⟨B, 0, none⟩ = some (.slice (some ⟨U, 0, none⟩) C C) := h.hB.cell 0
  have c1 : W.cell? ⟨B, 1, none⟩ = some (.iface 38 (.pointer (some ⟨R, 0, none⟩))) := h.hB.cell 1
  have c2 : W.cell? ⟨B, 2, none⟩ = some (.int .i64 0) := h.hB.cell 2
  have c3 : W.cell? ⟨B, 3, none⟩ = some (.int .i64 w) := h.hB.cell 3
  have c4 : W.cell? ⟨B, 4, none⟩ = some .nilIface := h.hB.cell 4
  have w1 : (w : Int) < (C : Int) := by omega
  have w2 : (0 : Int) ≤ (w : Int) := by omega
  have w3 : ¬ C = w := by omega
  have w4 : (w : Int) ≤ (C : Int) := by omega
  have hmr := method_read
  have HR : Hid (∀ q, Calls Tryd.prog 52 #[.pointer (some ⟨R, 0, none⟩), .slice (some ⟨U, w, none⟩) (C - w) (C - w)] (W.drewN q) fun e W' => e = .returned (.tuple #[.int .i64 n, .nilIface]) ∧ ReadOut R U (some ⟨D, 0, none⟩) N i w n ds cur (W.drewN q) W') :=
    fun q => read_some R U D N i w (C - w) (C - w) n pr ds cur (W.drewN q) hN hdl hlt (by omega) hnm (by omega) h.RU hDU hDR h.hR h.hU (by have := h.len; omega) hD
  clear hnm
  go_enter Tryd.func27, Tryd.ntmps27
  go_wp2
  go_quiet (fail)
  go_wp2
  refine wp_loop_rounds 1 ?_
  rw [rounds_succ]
  go_wp2
  go_region_held3 (fun w' => w'.cell? ⟨B, 0, none⟩ = some (.slice (some ⟨U, 0, none⟩) C C) ∧ w'.cell? ⟨B, 1, none⟩ = some (.iface 38 (.pointer (some ⟨R, 0, none⟩))) ∧ w'.cell? ⟨B, 3, none⟩ = some (.int .i64 w)) (go_keep) ((go_at_call 52; refine (HR.out _).mono ?_; rintro _ W2 ⟨rfl, HO⟩; have hB2 := HO.keep.blk (h.hB.drewN _) (fun h' => h'.elim h.BR h.BU); have e0 := hB2.cell 0; have e1 := hB2.cell 1; have e3 := hB2.cell 3; simp at e0 e1 e3; have HO2 : Hid _ := HO; have HB2 : Hid _ := hB2; clear HO hB2))
  all_goals
    have f3 := Blk.free HB2.out 3
    go_wp2
    (try simp only [Exit.inBlock, Exit.then])
    refine bodyPost_ret (results_none rfl _ _ _) rfl ?_
    have hlen := splice_length cur w (((ds.drop i).take n).map iv) (by rw [h.len, List.length_map, List.length_take, List.length_drop]; omega)
    refine ⟨rfl, ⟨?_, HO2.out.hR.setOther _ _ h.BR, HO2.out.hU.setOther _ _ h.BU, hlen.trans h.len, h.BU, h.BR, h.RU⟩, ?_⟩
    · have hx := Blk.setCell HB2.out 3 (.int .i64 ((w : Int) + (n : Int)))
      simpa using hx
    · exact (Keep.trans (Keep.drewN (Keep.refl (Three B U R) W) _) (HO2.out.keep.mono (fun k _ h' => h'.elim (fun e => .inr (.inr e)) (fun e => .inr (.inl e))))).setCell _ _ (.inl rfl)

set_option maxRecDepth 20000 in
set_option maxHeartbeats 2000000 in
theorem fill_eof0 (C B U R : Nat) (sa : Option Addr) (N w : Nat) (lb lr pr : Int) (ea : Addr) (cur : List Value) (W : World) (hC : C ≤ 10000) (he : W.cell? ⟨1, 0, none⟩ = some (.iface 65 (.pointer (some ea))))
    (h : St W C B U R sa N 0 w N .nilIface lb lr pr cur) (hw : w < C) :
    Calls Tryd.prog 27 #[.pointer (some ⟨B, 0, none⟩)] W fun e W' => e = .returned (.tuple #[]) ∧ St W' C B U R sa N 0 w N (.iface 65 (.pointer (some ea))) lb lr pr cur ∧ Keep (Three B U R) W W' := by
  have c0 : W.cell? ⟨B, 0, none⟩ = some (.slice (some ⟨U, 0, none⟩) C C) := h.hB.cell 0
  have c1 : W.cell? ⟨B, 1, none⟩ = some (.iface 38 (.pointer (some ⟨R, 0, none⟩))) := h.hB.cell 1
  have c2 : W.cell? ⟨B, 2, none⟩ = some (.int .i64 0) := h.hB.cell 2
  have c3 : W.cell? ⟨B, 3, none⟩ = some (.int .i64 w) := h.hB.cell 3
  have c4 : W.cell? ⟨B, 4, none⟩ = some .nilIface := h.hB.cell 4
  have w1 : (w : Int) < (C : Int) := by omega
  have w2 : (0 : Int) ≤ (w : Int) := by omega
  have w3 : ¬ C = w := by omega
  have w4 : (w : Int) ≤ (C : Int) := by omega
  have hmr := method_read
  have HR : Hid (∀ q, Calls Tryd.prog 52 #[.pointer (some ⟨R, 0, none⟩), .slice (some ⟨U, w, none⟩) (C - w) (C - w)] (W.drewN q) fun e W' => e = .returned (.tuple #[.int .i64 0, .iface 65 (.pointer (some ea))]) ∧ ∃ q', W' = (W.drewN q).drewN q') :=
    fun q => read_eof R sa (some ⟨U, w, none⟩) N (C - w) (C - w) pr (.pointer (some ea)) (W.drewN q) h.hR he
  go_enter Tryd.func27, Tryd.ntmps27
  go_wp2
  go_quiet (fail)
  go_wp2
  refine wp_loop_rounds 1 ?_
  rw [rounds_succ]
  go_wp2
  go_region_held3 (fun w' => w'.cell? ⟨B, 0, none⟩ = some (.slice (some ⟨U, 0, none⟩) C C) ∧ w'.cell? ⟨B, 1, none⟩ = some (.iface 38 (.pointer (some ⟨R, 0, none⟩))) ∧ w'.cell? ⟨B, 3, none⟩ = some (.int .i64 w)) (go_keep) ((go_at_call 52; refine (HR.out _).mono ?_; rintro _ W2 ⟨rfl, HO⟩; obtain ⟨q2, HO⟩ := HO; subst HO))
  all_goals
    have f3 := h.hB.free 3
    have f4 := h.hB.free 4
    go_wp2
    (try simp only [Exit.inBlock, Exit.then])
    refine bodyPost_ret (results_none rfl _ _ _) rfl ?_
    refine ⟨rfl, ⟨?_, (Blk.setOther (Blk.setOther (h.hR.drewN _) _ _ h.BR) _ _ h.BR), (Blk.setOther (Blk.setOther (h.hU.drewN _) _ _ h.BU) _ _ h.BU), h.len, h.BU, h.BR, h.RU⟩, ?_⟩
    · have hx := Blk.setCell (Blk.setCell (h.hB.drewN (nq + 1 + q2)) 3 (.int .i64 (w : Int))) 4 (.iface 65 (.pointer (some ea)))
      simpa using hx
    · exact ((Keep.drewN (Keep.refl (Three B U R) W) _).setCell _ _ (.inl rfl)).setCell _ _ (.inl rfl)

set_option maxRecDepth 20000 in
set_option maxHeartbeats 2000000 in
theorem fill_someS (C B U R D : Nat) (N r w i n : Nat) (lb lr pr : Int) (ds : List Int) (cur : List Value) (W : World) (hC : C ≤ 10000) (hN : N ≤ 4194304) (hdl : ds.length = N) (hlt : i < N) (hnm : n = Nat.min (N - i) (C - (w - r))) (hDU : D ≠ U) (hDR : D ≠ R) (hDB : D ≠ B)
    (hD : ∀ j, j < N → W.cell? ⟨D, j, none⟩ = some (.int .u8 (ds.getD j 0)))
    (h : St W C B U R (some ⟨D, 0, none⟩) N r w i .nilIface lb lr pr cur) (h1 : ∀ v ∈ cur, v.oneCell' = true) (hr : 0 < r) (hrw : r ≤ w) (hw : w ≤ C) :
    Calls Tryd.prog 27 #[.pointer (some ⟨B, 0, none⟩)] W fun e W' => e = .returned (.tuple #[]) ∧ St W' C B U R (some ⟨D, 0, none⟩) N 0 ((w - r) + n) (i + n) .nilIface lb lr (-1) (splice (splice cur 0 ((cur.drop r).take (w - r))) (w - r) (((ds.drop i).take n).map iv)) ∧ Keep (Three B U R) W W' := by
  have n0 : (0 : Int) < (n : Int) := by rw [hnm]; have := Nat.min_def (n := N - i) (m := C - (w - r)); simp only [Nat.min] at *; rw [this]; split <;> omega
  have n1 : n ≤ C - (w - r) := by rw [hnm]; exact Nat.min_le_right _ _
  have n2 : ¬ (n : Int) < 0 := by omega
  have c0 : W.cell? ⟨B, 0, none⟩ = some (.slice (some ⟨U, 0, none⟩) C C) := h.hB.cell 0
  have c1 : W.cell? ⟨B, 1, none⟩ = some (.iface 38 (.pointer (some ⟨R, 0, none⟩))) := h.hB.cell 1
  have c2 : W.cell? ⟨B, 2, none⟩ = some (.int .i64 r) := h.hB.cell 2
  have c3 : W.cell? ⟨B, 3, none⟩ = some (.int .i64 w) := h.hB.cell 3
  have f2 := h.hB.free 2
  have f3 := h.hB.free 3
  have r0 : (0 : Int) < (r : Int) := by omega
  have r1 : (r : Int) ≤ (w : Int) := by omega
  have r2 : (w : Int) ≤ (C : Int) := by omega
  have r3 : (0 : Int) ≤ (r : Int) := by omega
  have r4 : (0 : Int) ≤ (w : Int) := by omega
  have hcl : ((cur.drop r).take (w - r)).length = Nat.min (w - r) C := by
    rw [List.length_take, List.length_drop, h.len]
    show Nat.min _ _ = _
    exact (Nat.min_eq_left (by omega)).trans (Nat.min_eq_left (by omega)).symm
  have hsrc : ∀ j v, ((cur.drop r).take (w - r))[j]? = some v → (W.drew).cell? ((⟨U, r, none⟩ : Addr).add j) = some v := by
    intro j v hj
    rw [WideShapes.add_plain]
    have hjl : j < w - r := by
      have := (List.getElem?_eq_some_iff.1 hj).1
      rw [List.length_take] at this; omega
    rw [List.getElem?_take, if_pos hjl, List.getElem?_drop] at hj
    rw [h.hU.drew.cell (r + j)]
    simpa using hj
  have hone : ∀ v ∈ (cur.drop r).take (w - r), v.oneCell' = true := fun v hv => h1 v (List.mem_of_mem_drop (List.mem_of_mem_take hv))
  have hll : ((cur.drop r).take (w - r)).length = w - r := by rw [hcl]; exact Nat.min_eq_left (by omega)
  obtain ⟨cs, hcs⟩ : ∃ cs, (cur.drop r).take (w - r) = cs := ⟨_, rfl⟩
  rw [hcs] at hcl hsrc hone hll
  have HCS : Hid ((cur.drop r).take (w - r) = cs) := hcs
  have HCL : Hid (cs.length = Nat.min (w - r) C) := hcl
  have HCN : Hid (cs.length = w - r) := hll
  have HSRC : Hid (∀ j v, cs[j]? = some v → (W.drew).cell? ((⟨U, r, none⟩ : Addr).add j) = some v) := hsrc
  clear hcs hcl hsrc hll
  go_enter Tryd.func27, Tryd.ntmps27
  go_wp2
  go_region_held3 (fun w' => w'.cell? ⟨B, 0, none⟩ = some (.slice (some ⟨U, 0, none⟩) C C) ∧ w'.cell? ⟨B, 2, none⟩ = some (.int .i64 r) ∧ w'.cell? ⟨B, 3, none⟩ = some (.int .i64 w)) (go_keep) ((refine step_copy rfl (.tmp 13) (.tmp 26) rfl (v1 := .slice (some ⟨U, 0, none⟩) C C) (v2 := .slice (if C = r then some ⟨U, 0, none⟩ else some ⟨U, r, none⟩) (w - r) (C - r)) rfl rfl (run_copy_blk _ _ _ _ C C (w - r) (C - r) U 0 cur 5 h.hU.drew cs HCL.out (fun hp => ⟨rfl, ⟨U, r, none⟩, if_neg (by have := HCN.out; omega), HSRC.out⟩) (by rw [HCN.out, h.len]; omega) hone) ?_; intro v2 w2 hCo; obtain ⟨hv2, hCo⟩ := hCo; rw [HCN.out] at hv2; subst hv2; have HCO : Hid (Copied W.drew w2 U cur 0 cs 5) := hCo; have HB2 : Hid (Blk w2 B _ _) := hCo.keep.blk h.hB.drew h.BU; have d0 := Blk.cell HB2.out 0; have d2 := Blk.cell HB2.out 2; have d3 := Blk.cell HB2.out 3; have f2 := Blk.free HB2.out 2; have f3 := Blk.free HB2.out 3; simp at d0 d2 d3; clear hCo))
  all_goals
    generalize (if C = r then some (⟨U, 0, none⟩ : Addr) else some ⟨U, r, none⟩) = sv
    go_wp2
    go_region
    all_goals
      go_wp2
      have HB3 : Hid (Blk (((w2.setCell ⟨B, 3, none⟩ (.int .i64 ((w : Int) - (r : Int)))).setCell ⟨B, 2, none⟩ (.int .i64 0)).drew) B #[.slice (some ⟨U, 0, none⟩) C C, .iface 38 (.pointer (some ⟨R, 0, none⟩)), .int .i64 (0 : Nat), .int .i64 ((w - r : Nat) : Int), .nilIface, .int .i64 lb, .int .i64 lr] 44) := by
        have hx := Blk.setCell (Blk.setCell HB2.out 3 (.int .i64 ((w : Int) - (r : Int)))) 2 (.int .i64 0)
        have e : ((w - r : Nat) : Int) = (w : Int) - (r : Int) := by omega
        show Blk _ _ _ _
        rw [e]
        simpa using hx.drew
      have HR3 : Hid (Blk (((w2.setCell ⟨B, 3, none⟩ (.int .i64 ((w : Int) - (r : Int)))).setCell ⟨B, 2, none⟩ (.int .i64 0)).drew) R _ _) :=
        Blk.drew (Blk.setOther (Blk.setOther (HCO.out.keep.blk h.hR.drew h.RU) _ _ h.BR) _ _ h.BR)
      have HU3 : Hid (Blk (((w2.setCell ⟨B, 3, none⟩ (.int .i64 ((w : Int) - (r : Int)))).setCell ⟨B, 2, none⟩ (.int .i64 0)).drew) U _ _) :=
        Blk.drew (Blk.setOther (Blk.setOther HCO.out.blk _ _ h.BU) _ _ h.BU)
      have HK3 : Hid (Keep (Three B U R) W (((w2.setCell ⟨B, 3, none⟩ (.int .i64 ((w : Int) - (r : Int)))).setCell ⟨B, 2, none⟩ (.int .i64 0)).drew)) :=
        Keep.drew (Keep.setCell (Keep.setCell ((Keep.drew (Keep.refl _ W)).trans (HCO.out.keep.mono (fun k _ h' => .inr (.inl h')))) _ _ (.inl rfl)) _ _ (.inl rfl))
      have hlen3 := splice_length cur 0 cs (by rw [h.len, HCN.out]; omega)
      obtain ⟨W3, hW3⟩ : ∃ W3, ((w2.setCell ⟨B, 3, none⟩ (.int .i64 ((w : Int) - (r : Int)))).setCell ⟨B, 2, none⟩ (.int .i64 0)).drew = W3 := ⟨_, rfl⟩
      rw [hW3] at HB3 HR3 HU3 HK3 ⊢
      obtain ⟨cur3, hcur3⟩ : ∃ cur3, splice cur 0 cs = cur3 := ⟨_, rfl⟩
      rw [hcur3] at HU3 hlen3
      have HCUR : Hid (splice cur 0 cs = cur3) := hcur3
      have HCU : Hid (cur3.length = C) := hlen3.trans h.len
      obtain ⟨m, hm⟩ : ∃ m, w - r = m := ⟨_, rfl⟩
      obtain ⟨x, hx⟩ : ∃ x : Int, (w : Int) - (r : Int) = x := ⟨_, rfl⟩
      rw [hx]
      have HM : Hid (w - r = m) := hm
      rw [hm] at HB3 n1 hnm
      have h3 : St W3 C B U R (some ⟨D, 0, none⟩) N 0 m i .nilIface lb lr pr cur3 := ⟨HB3.out, HR3.out, HU3.out, hlen3.trans h.len, h.BU, h.BR, h.RU⟩
      have hm1 : m < C := by omega
      have hD3 : ∀ j, j < N → W3.cell? ⟨D, j, none⟩ = some (.int .u8 (ds.getD j 0)) := fun j hj => HK3.out.cell (hD j hj) (fun h' => h'.elim hDB (fun h' => h'.elim hDU hDR))
      clear hW3 hcur3 HB3 HR3 HU3 hlen3 hx hm d0 d2 d3 c0 c1 c2 c3 f2 f3 HB2 HCO HCL HCN HSRC hone hD r0 r1 r2 r3 r4
      have c0 : W3.cell? ⟨B, 0, none⟩ = some (.slice (some ⟨U, 0, none⟩) C C) := h3.hB.cell 0
      have c1 : W3.cell? ⟨B, 1, none⟩ = some (.iface 38 (.pointer (some ⟨R, 0, none⟩))) := h3.hB.cell 1
      have c2 : W3.cell? ⟨B, 2, none⟩ = some (.int .i64 0) := h3.hB.cell 2
      have c3 : W3.cell? ⟨B, 3, none⟩ = some (.int .i64 m) := h3.hB.cell 3
      have c4 : W3.cell? ⟨B, 4, none⟩ = some .nilIface := h3.hB.cell 4
      have w1 : (m : Int) < (C : Int) := by omega
      have w2 : (0 : Int) ≤ (m : Int) := by omega
      have w3 : ¬ C = m := by omega
      have w4 : (m : Int) ≤ (C : Int) := by omega
      have hmr := method_read
      have HR : Hid (∀ q, Calls Tryd.prog 52 #[.pointer (some ⟨R, 0, none⟩), .slice (some ⟨U, m, none⟩) (C - m) (C - m)] (W3.drewN q) fun e W' => e = .returned (.tuple #[.int .i64 n, .nilIface]) ∧ ReadOut R U (some ⟨D, 0, none⟩) N i m n ds cur3 (W3.drewN q) W') :=
        fun q => read_some R U D N i m (C - m) (C - m) n pr ds cur3 (W3.drewN q) hN hdl hlt (by omega) hnm (by omega) h3.RU hDU hDR h3.hR h3.hU (by have := h3.len; omega) hD3
      clear hnm
      go_quiet (fail)
      go_wp2
      refine wp_loop_rounds 1 ?_
      rw [rounds_succ]
      go_wp2
      go_region_held3 (fun w' => w'.cell? ⟨B, 0, none⟩ = some (.slice (some ⟨U, 0, none⟩) C C) ∧ w'.cell? ⟨B, 1, none⟩ = some (.iface 38 (.pointer (some ⟨R, 0, none⟩))) ∧ w'.cell? ⟨B, 3, none⟩ = some (.int .i64 m)) (go_keep) ((go_at_call 52; refine (HR.out _).mono ?_; rintro _ W2 ⟨rfl, HO⟩; have hB2 := HO.keep.blk (h3.hB.drewN _) (fun h' => h'.elim h.BR h.BU); have e0 := hB2.cell 0; have e1 := hB2.cell 1; have e3 := hB2.cell 3; simp at e0 e1 e3; have HO2 : Hid _ := HO; have HB2 : Hid _ := hB2; clear HO hB2))
      all_goals
        have f3 := Blk.free HB2.out 3
        go_wp2
        (try simp only [Exit.inBlock, Exit.then])
        refine bodyPost_ret (results_none rfl _ _ _) rfl ?_
        rw [HCS.out, HCUR.out, HM.out]
        have hlen := splice_length cur3 m (((ds.drop i).take n).map iv) (by rw [h3.len, List.length_map, List.length_take, List.length_drop]; omega)
        refine ⟨rfl, ⟨?_, HO2.out.hR.setOther _ _ h.BR, HO2.out.hU.setOther _ _ h.BU, hlen.trans h3.len, h.BU, h.BR, h.RU⟩, ?_⟩
        · have hx := Blk.setCell HB2.out 3 (.int .i64 ((m : Int) + (n : Int)))
          simpa using hx
        · exact (Keep.trans (Keep.drewN (HK3.out) _) (HO2.out.keep.mono (fun k _ h' => h'.elim (fun e => .inr (.inr e)) (fun e => .inr (.inl e))))).setCell _ _ (.inl rfl)

set_option maxRecDepth 20000 in
set_option maxHeartbeats 2000000 in
theorem fill_eofS (C B U R : Nat) (sa : Option Addr) (N r w : Nat) (lb lr pr : Int) (ea : Addr) (cur : List Value) (W : World) (hC : C ≤ 10000) (hG : ¬ Three B U R 1) (he : W.cell? ⟨1, 0, none⟩ = some (.iface 65 (.pointer (some ea))))
    (h : St W C B U R sa N r w N .nilIface lb lr pr cur) (h1 : ∀ v ∈ cur, v.oneCell' = true) (hr : 0 < r) (hrw : r ≤ w) (hw : w ≤ C) :
    Calls Tryd.prog 27 #[.pointer (some ⟨B, 0, none⟩)] W fun e W' => e = .returned (.tuple #[]) ∧ St W' C B U R sa N 0 (w - r) N (.iface 65 (.pointer (some ea))) lb lr pr (splice cur 0 ((cur.drop r).take (w - r))) ∧ Keep (Three B U R) W W' := by
  have c0 : W.cell? ⟨B, 0, none⟩ = some (.slice (some ⟨U, 0, none⟩) C C) := h.hB.cell 0
  have c1 : W.cell? ⟨B, 1, none⟩ = some (.iface 38 (.pointer (some ⟨R, 0, none⟩))) := h.hB.cell 1
  have c2 : W.cell? ⟨B, 2, none⟩ = some (.int .i64 r) := h.hB.cell 2
  have c3 : W.cell? ⟨B, 3, none⟩ = some (.int .i64 w) := h.hB.cell 3
  have f2 := h.hB.free 2
  have f3 := h.hB.free 3
  have r0 : (0 : Int) < (r : Int) := by omega
  have r1 : (r : Int) ≤ (w : Int) := by omega
  have r2 : (w : Int) ≤ (C : Int) := by omega
  have r3 : (0 : Int) ≤ (r : Int) := by omega
  have r4 : (0 : Int) ≤ (w : Int) := by omega
  have hcl : ((cur.drop r).take (w - r)).length = Nat.min (w - r) C := by
    rw [List.length_take, List.length_drop, h.len]
    show Nat.min _ _ = _
    exact (Nat.min_eq_left (by omega)).trans (Nat.min_eq_left (by omega)).symm
  have hsrc : ∀ j v, ((cur.drop r).take (w - r))[j]? = some v → (W.drew).cell? ((⟨U, r, none⟩ : Addr).add j) = some v := by
    intro j v hj
    rw [WideShapes.add_plain]
    have hjl : j < w - r := by
      have := (List.getElem?_eq_some_iff.1 hj).1
      rw [List.length_take] at this; omega
    rw [List.getElem?_take, if_pos hjl, List.getElem?_drop] at hj
    rw [h.hU.drew.cell (r + j)]
    simpa using hj
  have hone : ∀ v ∈ (cur.drop r).take (w - r), v.oneCell' = true := fun v hv => h1 v (List.mem_of_mem_drop (List.mem_of_mem_take hv))
  have hll : ((cur.drop r).take (w - r)).length = w - r := by rw [hcl]; exact Nat.min_eq_left (by omega)
  obtain ⟨cs, hcs⟩ : ∃ cs, (cur.drop r).take (w - r) = cs := ⟨_, rfl⟩
  rw [hcs] at hcl hsrc hone hll
  have HCS : Hid ((cur.drop r).take (w - r) = cs) := hcs
  have HCL : Hid (cs.length = Nat.min (w - r) C) := hcl
  have HCN : Hid (cs.length = w - r) := hll
  have HSRC : Hid (∀ j v, cs[j]? = some v → (W.drew).cell? ((⟨U, r, none⟩ : Addr).add j) = some v) := hsrc
  clear hcs hcl hsrc hll
  go_enter Tryd.func27, Tryd.ntmps27
  go_wp2
  go_region_held3 (fun w' => w'.cell? ⟨B, 0, none⟩ = some (.slice (some ⟨U, 0, none⟩) C C) ∧ w'.cell? ⟨B, 2, none⟩ = some (.int .i64 r) ∧ w'.cell? ⟨B, 3, none⟩ = some (.int .i64 w)) (go_keep) ((refine step_copy rfl (.tmp 13) (.tmp 26) rfl (v1 := .slice (some ⟨U, 0, none⟩) C C) (v2 := .slice (if C = r then some ⟨U, 0, none⟩ else some ⟨U, r, none⟩) (w - r) (C - r)) rfl rfl (run_copy_blk _ _ _ _ C C (w - r) (C - r) U 0 cur 5 h.hU.drew cs HCL.out (fun hp => ⟨rfl, ⟨U, r, none⟩, if_neg (by have := HCN.out; omega), HSRC.out⟩) (by rw [HCN.out, h.len]; omega) hone) ?_; intro v2 w2 hCo; obtain ⟨hv2, hCo⟩ := hCo; rw [HCN.out] at hv2; subst hv2; have HCO : Hid (Copied W.drew w2 U cur 0 cs 5) := hCo; have HB2 : Hid (Blk w2 B _ _) := hCo.keep.blk h.hB.drew h.BU; have d0 := Blk.cell HB2.out 0; have d2 := Blk.cell HB2.out 2; have d3 := Blk.cell HB2.out 3; have f2 := Blk.free HB2.out 2; have f3 := Blk.free HB2.out 3; simp at d0 d2 d3; clear hCo))
  all_goals
    generalize (if C = r then some (⟨U, 0, none⟩ : Addr) else some ⟨U, r, none⟩) = sv
    go_wp2
    go_region
    all_goals
      go_wp2
      have HB3 : Hid (Blk (((w2.setCell ⟨B, 3, none⟩ (.int .i64 ((w : Int) - (r : Int)))).setCell ⟨B, 2, none⟩ (.int .i64 0)).drew) B #[.slice (some ⟨U, 0, none⟩) C C, .iface 38 (.pointer (some ⟨R, 0, none⟩)), .int .i64 (0 : Nat), .int .i64 ((w - r : Nat) : Int), .nilIface, .int .i64 lb, .int .i64 lr] 44) := by
        have hx := Blk.setCell (Blk.setCell HB2.out 3 (.int .i64 ((w : Int) - (r : Int)))) 2 (.int .i64 0)
        have e : ((w - r : Nat) : Int) = (w : Int) - (r : Int) := by omega
        show Blk _ _ _ _
        rw [e]
        simpa using hx.drew
      have HR3 : Hid (Blk (((w2.setCell ⟨B, 3, none⟩ (.int .i64 ((w : Int) - (r : Int)))).setCell ⟨B, 2, none⟩ (.int .i64 0)).drew) R _ _) :=
        Blk.drew (Blk.setOther (Blk.setOther (HCO.out.keep.blk h.hR.drew h.RU) _ _ h.BR) _ _ h.BR)
      have HU3 : Hid (Blk (((w2.setCell ⟨B, 3, none⟩ (.int .i64 ((w : Int) - (r : Int)))).setCell ⟨B, 2, none⟩ (.int .i64 0)).drew) U _ _) :=
        Blk.drew (Blk.setOther (Blk.setOther HCO.out.blk _ _ h.BU) _ _ h.BU)
      have HK3 : Hid (Keep (Three B U R) W (((w2.setCell ⟨B, 3, none⟩ (.int .i64 ((w : Int) - (r : Int)))).setCell ⟨B, 2, none⟩ (.int .i64 0)).drew)) :=
        Keep.drew (Keep.setCell (Keep.setCell ((Keep.drew (Keep.refl _ W)).trans (HCO.out.keep.mono (fun k _ h' => .inr (.inl h')))) _ _ (.inl rfl)) _ _ (.inl rfl))
      have hlen3 := splice_length cur 0 cs (by rw [h.len, HCN.out]; omega)
      obtain ⟨W3, hW3⟩ : ∃ W3, ((w2.setCell ⟨B, 3, none⟩ (.int .i64 ((w : Int) - (r : Int)))).setCell ⟨B, 2, none⟩ (.int .i64 0)).drew = W3 := ⟨_, rfl⟩
      rw [hW3] at HB3 HR3 HU3 HK3 ⊢
      obtain ⟨cur3, hcur3⟩ : ∃ cur3, splice cur 0 cs = cur3 := ⟨_, rfl⟩
      rw [hcur3] at HU3 hlen3
      have HCUR : Hid (splice cur 0 cs = cur3) := hcur3
      have HCU : Hid (cur3.length = C) := hlen3.trans h.len
      obtain ⟨m, hm⟩ : ∃ m, w - r = m := ⟨_, rfl⟩
      obtain ⟨x, hx⟩ : ∃ x : Int, (w : Int) - (r : Int) = x := ⟨_, rfl⟩
      rw [hx]
      have HM : Hid (w - r = m) := hm
      rw [hm] at HB3
      have h3 : St W3 C B U R (sa) N 0 m N .nilIface lb lr pr cur3 := ⟨HB3.out, HR3.out, HU3.out, hlen3.trans h.len, h.BU, h.BR, h.RU⟩
      have hm1 : m < C := by omega
      have he3 : W3.cell? ⟨1, 0, none⟩ = some (.iface 65 (.pointer (some ea))) := HK3.out.cell he hG
      clear hW3 hcur3 HB3 HR3 HU3 hlen3 hx hm d0 d2 d3 c0 c1 c2 c3 f2 f3 HB2 HCO HCL HCN HSRC hone he r0 r1 r2 r3 r4
      have c0 : W3.cell? ⟨B, 0, none⟩ = some (.slice (some ⟨U, 0, none⟩) C C) := h3.hB.cell 0
      have c1 : W3.cell? ⟨B, 1, none⟩ = some (.iface 38 (.pointer (some ⟨R, 0, none⟩))) := h3.hB.cell 1
      have c2 : W3.cell? ⟨B, 2, none⟩ = some (.int .i64 0) := h3.hB.cell 2
      have c3 : W3.cell? ⟨B, 3, none⟩ = some (.int .i64 m) := h3.hB.cell 3
      have c4 : W3.cell? ⟨B, 4, none⟩ = some .nilIface := h3.hB.cell 4
      have w1 : (m : Int) < (C : Int) := by omega
      have w2 : (0 : Int) ≤ (m : Int) := by omega
      have w3 : ¬ C = m := by omega
      have w4 : (m : Int) ≤ (C : Int) := by omega
      have hmr := method_read
      have HR : Hid (∀ q, Calls Tryd.prog 52 #[.pointer (some ⟨R, 0, none⟩), .slice (some ⟨U, m, none⟩) (C - m) (C - m)] (W3.drewN q) fun e W' => e = .returned (.tuple #[.int .i64 0, .iface 65 (.pointer (some ea))]) ∧ ∃ q', W' = (W3.drewN q).drewN q') :=
        fun q => read_eof R sa (some ⟨U, m, none⟩) N (C - m) (C - m) pr (.pointer (some ea)) (W3.drewN q) h3.hR he3
      go_quiet (fail)
      go_wp2
      refine wp_loop_rounds 1 ?_
      rw [rounds_succ]
      go_wp2
      go_region_held3 (fun w' => w'.cell? ⟨B, 0, none⟩ = some (.slice (some ⟨U, 0, none⟩) C C) ∧ w'.cell? ⟨B, 1, none⟩ = some (.iface 38 (.pointer (some ⟨R, 0, none⟩))) ∧ w'.cell? ⟨B, 3, none⟩ = some (.int .i64 m)) (go_keep) ((go_at_call 52; refine (HR.out _).mono ?_; rintro _ W2 ⟨rfl, HO⟩; obtain ⟨q2, HO⟩ := HO; subst HO))
      all_goals
        have f3 := h3.hB.free 3
        have f4 := h3.hB.free 4
        go_wp2
        (try simp only [Exit.inBlock, Exit.then])
        refine bodyPost_ret (results_none rfl _ _ _) rfl ?_
        rw [HCS.out, HCUR.out, HM.out]
        refine ⟨rfl, ⟨?_, (Blk.setOther (Blk.setOther (h3.hR.drewN _) _ _ h.BR) _ _ h.BR), (Blk.setOther (Blk.setOther (h3.hU.drewN _) _ _ h.BU) _ _ h.BU), h3.len, h.BU, h.BR, h.RU⟩, ?_⟩
        · have hx := Blk.setCell (Blk.setCell (h3.hB.drewN (nq + 1 + q2)) 3 (.int .i64 (m : Int))) 4 (.iface 65 (.pointer (some ea)))
          simpa using hx
        · exact ((Keep.drewN (HK3.out) _).setCell _ _ (.inl rfl)).setCell _ _ (.inl rfl)

end Go.Proofs.Qxb6612819aDoor
