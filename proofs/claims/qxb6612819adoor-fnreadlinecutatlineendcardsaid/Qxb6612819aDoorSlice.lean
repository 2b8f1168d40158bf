/-
  (*bufio.Reader).ReadSlice (20).
-/
import Derived.Test.Qxb6612819aDoorSlice0
import Derived.Deep.LoopGhost
namespace Go.Proofs.Qxb6612819aDoor
open Go.RowKit

/-- At the head of ReadSlice's loop: gk bounds the rounds to come. -/
def Head (C B U R : Nat) (sa : Option Addr) (ds : List Int) (p : Nat) (ea : Addr) (W : World) (gk s : Nat) (wr : World) : Prop :=
  ∃ k r, s ≤ k ∧ NoLF ds p s ∧ Keep (Three B U R) W wr ∧ ((Rd wr C B U R sa ds p k r .nilIface ∧ ds.length - (p + k) + 2 ≤ gk) ∨ (Rd wr C B U R sa ds p k r (.iface 65 (.pointer (some ea))) ∧ r = 0 ∧ s = k ∧ p + k = ds.length ∧ k < C ∧ 1 ≤ gk))

theorem wrap_small (n : Nat) (h : n ≤ 1048576) : IntKind.i64.wrap (n : Int) = (n : Int) := by
  have h1 : (n : Int) ≤ 1048576 := by omega
  have h2 : (0 : Int) ≤ (n : Int) := by omega
  simp [IntKind.wrap, IntKind.signed, IntKind.bits]
  omega

theorem Rd.drewN {W : World} {C B U R : Nat} {sa : Option Addr} {ds : List Int} {p k r : Nat} {ev : Value} (h : Rd W C B U R sa ds p k r ev) (q : Nat) : Rd (W.drewN q) C B U R sa ds p k r ev := by
  obtain ⟨a, b, lb, lr, pr, cur, st, c, d⟩ := h
  exact ⟨a, b, lb, lr, pr, cur, ⟨st.hB, st.hR, st.hU, st.len, st.BU, st.BR, st.RU⟩, c, d⟩

/-- Bytes handed out: the reader moved on by m. -/
theorem Rd.moved {wr W4 : World} {C B U R : Nat} {sa : Option Addr} {ds : List Int} {p k r w : Nat} {ev : Value} {lb lr pr : Int} {cur : List Value} (st : St wr C B U R sa ds.length r w (p + k) ev lb lr pr cur)
    (hd : (∀ v ∈ cur, v.oneCell' = true) ∧ ∀ j, j < k → cur[r + j]? = some (iv (ds.getD (p + j) 0))) (hw : r + k = w) (hwC : w ≤ C) (hpk : p + k ≤ ds.length) (m : Nat) (hm : m ≤ k) (r' : Nat) (hr' : r + m = r') (lb' lr' : Int)
    (hB4 : Blk W4 B #[.slice (some ⟨U, 0, none⟩) C C, .iface 38 (.pointer (some ⟨R, 0, none⟩)), .int .i64 r', .int .i64 w, .nilIface, .int .i64 lb', .int .i64 lr'] 44) (hk : Keep (· = B) wr W4) :
    Rd W4 C B U R sa ds (p + m) (k - m) r' .nilIface := by
  refine ⟨by omega, by omega, lb', lr', pr, cur, ⟨?_, ?_, hk.blk st.hU st.BU.symm, st.len, st.BU, st.BR, st.RU⟩, hd.1, fun j hj => ?_⟩
  · rw [show r' + (k - m) = w by omega]; exact hB4
  · rw [show p + m + (k - m) = p + k by omega]; exact hk.blk st.hR st.BR.symm
  · have h2 := hd.2 (m + j) (by omega)
    rw [show r' + j = r + (m + j) by omega, h2, Nat.add_assoc]

theorem Keep.setB {B : Nat} {a b : World} (h : Keep (· = B) a b) (j : Nat) (v : Value) : Keep (· = B) a (b.setCell ⟨B, j, none⟩ v) := Keep.setCell h ⟨B, j, none⟩ v (show B = B from rfl)
theorem found_out {wr W : World} {C B U R : Nat} {sa : Option Addr} {ds : List Int} {p k r w s x i i1 y y1 j : Nat} {ea fa : Addr} {ev : Value} {lb lr pr : Int} {cur : List Value} (st : St wr C B U R sa ds.length r w (p + k) ev lb lr pr cur) (hev : ev = .nilIface)
    (hd : (∀ v ∈ cur, v.oneCell' = true) ∧ ∀ j, j < k → cur[r + j]? = some (iv (ds.getD (p + j) 0))) (hX : r + s = x ∧ r + k = w ∧ s ≤ k ∧ p + k ≤ ds.length ∧ w ≤ C)
    (hF : ds.getD (p + (s + j)) 0 = 10 ∧ (∀ i, i < j → ds.getD (p + (s + i)) 0 ≠ 10) ∧ s + j < k ∧ s + j = i ∧ i + 1 = i1 ∧ r + i = y ∧ y + 1 = y1) (hKP : Keep (Three B U R) W wr) (hLN : Line wr U r k ds p) (hNO : NoLF ds p s) (q : Nat) :
    SliceOut C B U R sa ds p ea fa W (.returned (.tuple #[.slice (some ⟨U, r, none⟩) i1 (C - r), .nilIface])) ((((wr.drewN q).setCell ⟨B, 2, none⟩ (.int .i64 (y1 : Int))).setCell ⟨B, 5, none⟩ (.int .i64 10)).setCell ⟨B, 6, none⟩ (.int .i64 (-1))) := by
  subst hev
  obtain ⟨e1, e2, e3, e4, e5, e6, e7⟩ := hF
  obtain ⟨g1, g2, g3, g4, g5⟩ := hX
  have hk4 : Keep (· = B) wr ((((wr.drewN q).setCell ⟨B, 2, none⟩ (.int .i64 (y1 : Int))).setCell ⟨B, 5, none⟩ (.int .i64 10)).setCell ⟨B, 6, none⟩ (.int .i64 (-1))) :=
    Keep.setB (Keep.setB (Keep.setB (Keep.drewN (Keep.refl (· = B) wr) q) 2 _) 5 _) 6 _
  have hB4 := Blk.setCell (Blk.setCell (Blk.setCell (st.hB.drewN q) 2 (.int .i64 (y1 : Int))) 5 (.int .i64 10)) 6 (.int .i64 (-1))
  have hB5 := Rd.moved st hd g2 g5 g4 i1 (by omega) y1 (by omega) 10 (-1) (by simpa using hB4) hk4
  refine ⟨r, i1, C - r, k - i1, y1, .nilIface, rfl, by omega, by omega, hB5, hKP.trans (hk4.mono (fun _ _ h' => .inl h')), fun j' hj' => hk4.cell (hLN j' (by omega)) st.BU.symm, .inl ⟨rfl, by omega, ?_, fun j' hj' => ?_⟩⟩
  · rw [show p + (i1 - 1) = p + (s + j) by omega]; exact e1
  · rcases Nat.lt_or_ge j' s with h2 | h2
    · exact hNO j' h2
    · have h3 := e2 (j' - s) (by omega)
      rwa [show s + (j' - s) = j' by omega] at h3

theorem full_out {wr W : World} {C B U R : Nat} {sa : Option Addr} {ds : List Int} {p : Nat} {ea fa : Addr} {lb lr pr : Int} {cur : List Value} (st : St wr C B U R sa ds.length 0 C (p + C) .nilIface lb lr pr cur)
    (hd : (∀ v ∈ cur, v.oneCell' = true) ∧ ∀ j, j < C → cur[0 + j]? = some (iv (ds.getD (p + j) 0))) (hpk : p + C ≤ ds.length) (hKP : Keep (Three B U R) W wr) (hLN : Line wr U 0 C ds p) (hNO : NoLF ds p C) (q : Nat) (b1 : Int) :
    SliceOut C B U R sa ds p ea fa W (.returned (.tuple #[.slice (some ⟨U, 0, none⟩) C C, .iface 65 (.pointer (some fa))])) ((((wr.drewN q).setCell ⟨B, 2, none⟩ (.int .i64 (C : Int))).setCell ⟨B, 5, none⟩ (.int .i64 b1)).setCell ⟨B, 6, none⟩ (.int .i64 (-1))) := by
  have hk4 : Keep (· = B) wr ((((wr.drewN q).setCell ⟨B, 2, none⟩ (.int .i64 (C : Int))).setCell ⟨B, 5, none⟩ (.int .i64 b1)).setCell ⟨B, 6, none⟩ (.int .i64 (-1))) :=
    Keep.setB (Keep.setB (Keep.setB (Keep.drewN (Keep.refl (· = B) wr) q) 2 _) 5 _) 6 _
  have hB4 := Blk.setCell (Blk.setCell (Blk.setCell (st.hB.drewN q) 2 (.int .i64 (C : Int))) 5 (.int .i64 b1)) 6 (.int .i64 (-1))
  have hB5 := Rd.moved st hd (Nat.zero_add _) (Nat.le_refl _) hpk C (Nat.le_refl _) C (Nat.zero_add _) b1 (-1) (by simpa using hB4) hk4
  exact ⟨0, C, C, C - C, C, _, rfl, Nat.le_refl _, Nat.le_refl _, hB5, hKP.trans (hk4.mono (fun _ _ h' => .inl h')), fun j' hj' => hk4.cell (hLN j' hj') st.BU.symm, .inr (.inl ⟨rfl, rfl, hNO⟩)⟩
theorem eof_out {wr W W4 : World} {C B U R : Nat} {sa : Option Addr} {ds : List Int} {p k : Nat} {ea fa : Addr} {lb lr pr : Int} {cur : List Value} (st : St wr C B U R sa ds.length 0 k (p + k) (.iface 65 (.pointer (some ea))) lb lr pr cur)
    (hd : (∀ v ∈ cur, v.oneCell' = true) ∧ ∀ j, j < k → cur[0 + j]? = some (iv (ds.getD (p + j) 0))) (hpk : p + k = ds.length) (hkC : k < C) (hKP : Keep (Three B U R) W wr) (hLN : Line wr U 0 k ds p) (hNO : NoLF ds p k) (lb' lr' : Int) (hk4 : Keep (· = B) wr W4)
    (hB4 : Blk W4 B #[.slice (some ⟨U, 0, none⟩) C C, .iface 38 (.pointer (some ⟨R, 0, none⟩)), .int .i64 k, .int .i64 k, .nilIface, .int .i64 lb', .int .i64 lr'] 44) :
    SliceOut C B U R sa ds p ea fa W (.returned (.tuple #[.slice (some ⟨U, 0, none⟩) k C, .iface 65 (.pointer (some ea))])) W4 := by
  have hB5 := Rd.moved st hd (Nat.zero_add _) (Nat.le_of_lt hkC) (Nat.le_of_eq hpk) k (Nat.le_refl _) k (Nat.zero_add _) lb' lr' hB4 hk4
  exact ⟨0, k, C, k - k, k, _, rfl, Nat.le_of_lt hkC, Nat.le_refl _, hB5, hKP.trans (hk4.mono (fun _ _ h' => .inl h')), fun j' hj' => hk4.cell (hLN j' hj') st.BU.symm, .inr (.inr ⟨rfl, hpk, hkC, hNO⟩)⟩

theorem buffered (B r w k : Nat) (W : World) (h2 : W.cell? ⟨B, 2, none⟩ = some (.int .i64 r)) (h3 : W.cell? ⟨B, 3, none⟩ = some (.int .i64 w)) (hw : r + k = w) (hb : w ≤ 10000) :
    Calls Tryd.prog 26 #[.pointer (some ⟨B, 0, none⟩)] W fun e W' => e = .returned (.int .i64 (k : Int)) ∧ ∃ q, W' = W.drewN q := by
  have kI : (w : Int) - (r : Int) = (k : Int) := by omega
  have kW := wrap_small k (by omega)
  clear hw
  go_enter Tryd.func26, Tryd.ntmps26
  go_wp2
  go_quiet (fail)
  go_wp2
  go_ret
  exact ⟨rfl, _, rfl⟩
theorem read_err (B : Nat) (ea : Addr) (W : World) (h4 : W.cell? ⟨B, 4, none⟩ = some (.iface 65 (.pointer (some ea)))) (f4 : W.frozen? ⟨B, 4, none⟩ = false) :
    Calls Tryd.prog 25 #[.pointer (some ⟨B, 0, none⟩)] W fun e W' => e = .returned (.iface 65 (.pointer (some ea))) ∧ W' = W.setCell ⟨B, 4, none⟩ .nilIface := by
  go_enter Tryd.func25, Tryd.ntmps25
  go_wp2
  go_ret
  exact ⟨rfl, rfl⟩

set_option maxRecDepth 20000 in
set_option maxHeartbeats 4000000 in
theorem read_slice (C B U R : Nat) (sa : Option Addr) (ds : List Int) (p k0 r0 : Nat) (ea fa : Addr) (W : World) (hC : C ≤ 10000) (hC0 : 0 < C) (hb : Bytes ds) (E : Env W B U R sa ds ea fa) (h : Rd W C B U R sa ds p k0 r0 .nilIface) :
    Calls Tryd.prog 20 #[.pointer (some ⟨B, 0, none⟩), .int .u8 10] W (SliceOut C B U R sa ds p ea fa W) := by
  go_enter Tryd.func20, Tryd.ntmps20
  go_wp2
  go_loopg [4, 5, 6] (ds.length - (p + k0) + 2) (fun gk s4 s5 s6 wr => ∃ s : Nat, s4 = .slice none 0 0 ∧ s5 = .nilIface ∧ s6 = .int .i64 s ∧ Head C B U R sa ds p ea W gk s wr)
  case atStart => exact ⟨0, rfl, rfl, rfl, k0, r0, Nat.zero_le _, fun j hj => absurd hj (Nat.not_lt_zero _), Keep.refl _ _, .inl ⟨h, Nat.le_refl _⟩⟩
  case round =>
    obtain ⟨s, rfl, rfl, rfl, k, r, hs, hno, hkp, hst⟩ := hrel
    have E1 := E.keep hkp
    have hE1 : Hid (Env wr B U R sa ds ea fa) := E1
    have hKP : Hid (Keep (Three B U R) W wr) := hkp
    have hNO : Hid (NoLF ds p s) := hno
    rcases hst with ⟨hrd, hgk⟩ | ⟨hrd, rfl, rfl, hpe, hkC, hgk⟩
    · have hRD : Hid (Rd wr C B U R sa ds p k r .nilIface) := hrd
      have hLN : Hid (Line wr U r k ds p) := hrd.line
      obtain ⟨hrk, hpk, lb, lr, pr, cur, st, h1, hdat⟩ := hrd
      obtain ⟨w, hw⟩ : ∃ w, r + k = w := ⟨_, rfl⟩
      obtain ⟨x, hx⟩ : ∃ x, r + s = x := ⟨_, rfl⟩
      rw [hw] at st
      have c0 : wr.cell? ⟨B, 0, none⟩ = some (.slice (some ⟨U, 0, none⟩) C C) := st.hB.cell 0
      have c2 : wr.cell? ⟨B, 2, none⟩ = some (.int .i64 r) := st.hB.cell 2
      have c3 : wr.cell? ⟨B, 3, none⟩ = some (.int .i64 w) := st.hB.cell 3
      have c4 : wr.cell? ⟨B, 4, none⟩ = some .nilIface := st.hB.cell 4
      have c5 : wr.cell? ⟨B, 5, none⟩ = some (.int .i64 lb) := st.hB.cell 5
      have c6 : wr.cell? ⟨B, 6, none⟩ = some (.int .i64 lr) := st.hB.cell 6
      have xI : (r : Int) + (s : Int) = (x : Int) := by omega
      have xW := wrap_small x (by omega)
      have x0 : (0 : Int) ≤ (x : Int) := by omega
      have x1 : (x : Int) ≤ (w : Int) := by omega
      have x2 : (w : Int) ≤ (C : Int) := by omega
      have x3 : (0 : Int) ≤ (w : Int) := by omega
      have x4 : (0 : Int) ≤ (r : Int) := by omega
      have x5 : (r : Int) ≤ (w : Int) := by omega
      have hIX : ∀ w', (∀ a, w'.cell? a = wr.cell? a) → Calls Tryd.prog 24 #[.slice (if C = x then some ⟨U, 0, none⟩ else some ⟨U, x, none⟩) (w - x) (C - x), .int .u8 10] w' fun e W' => e = .returned (.int .i64 (Lib.indexByte (Lib.bytesOf ((ds.drop (p + s)).take (k - s))) (10 : Int).toNat.toUInt8)) ∧ W' = w' :=
        fun w' hw' => index_call w' C U r s k x w ds p hs hpk hx hw (by omega) (fun j hj => (hw' _).trans (hLN.out j hj))
      have HST : Hid (St wr C B U R sa ds.length r w (p + k) .nilIface lb lr pr cur) := st
      have HD : Hid ((∀ v ∈ cur, v.oneCell' = true) ∧ ∀ j, j < k → cur[r + j]? = some (iv (ds.getD (p + j) 0))) := ⟨h1, hdat⟩
      have HX : Hid (r + s = x ∧ r + k = w ∧ s ≤ k ∧ p + k ≤ ds.length ∧ w ≤ C) := ⟨hx, hw, hs, hpk, by omega⟩
      rcases index_fact ds hb p s k hs hpk with ⟨j, hj, hz, hj10, hjn⟩ | ⟨hz, hjn⟩
      · rw [hz] at hIX
        have HIX : Hid (∀ w', (∀ a, w'.cell? a = wr.cell? a) → Calls Tryd.prog 24 #[.slice (if C = x then some ⟨U, 0, none⟩ else some ⟨U, x, none⟩) (w - x) (C - x), .int .u8 10] w' fun e W' => e = .returned (.int .i64 (j : Int)) ∧ W' = w') := hIX
        obtain ⟨i, hi⟩ : ∃ i, s + j = i := ⟨_, rfl⟩
        obtain ⟨i1, hi1⟩ : ∃ i1, i + 1 = i1 := ⟨_, rfl⟩
        obtain ⟨y, hy⟩ : ∃ y, r + i = y := ⟨_, rfl⟩
        obtain ⟨y1, hy1⟩ : ∃ y1, y + 1 = y1 := ⟨_, rfl⟩
        have iI : (j : Int) + (s : Int) = (i : Int) := by omega
        have i1I : (i : Int) + 1 = (i1 : Int) := by omega
        have yI : (r : Int) + (i : Int) = (y : Int) := by omega
        have y1I : (y : Int) + 1 = (y1 : Int) := by omega
        have yyI : (r : Int) + (i1 : Int) = (y1 : Int) := by omega
        have iW := wrap_small i (by omega)
        have i1W := wrap_small i1 (by omega)
        have yW := wrap_small y (by omega)
        have y1W := wrap_small y1 (by omega)
        have lI : y1 - r = i1 := by omega
        have li : (i1 : Int) - 1 = (i : Int) := by omega
        have z0 : (0 : Int) ≤ (j : Int) := by omega
        have z1 : (y1 : Int) ≤ (C : Int) := by omega
        have z2 : (r : Int) ≤ (y1 : Int) := by omega
        have z3 : (0 : Int) ≤ (y1 : Int) := by omega
        have z4 : (0 : Int) ≤ (i : Int) := by omega
        have z5 : (i : Int) < (i1 : Int) := by omega
        have z6 : ¬ C = r := by omega
        have z7 : (i : Int) ≤ 10000 := by omega
        have z8 : (j : Int) ≤ 10000 := by omega
        have z9 : (s : Int) ≤ 10000 := by omega
        have cU : wr.cell? ⟨U, r + i, none⟩ = some (.int .u8 10) := by have hh := hLN.out i (by omega); rwa [show p + i = p + (s + j) by omega, hj10] at hh
        have f2 := st.hB.free 2
        have f5 := st.hB.free 5
        have f6 := st.hB.free 6
        have BU : B ≠ U := st.BU
        have UB : U ≠ B := st.BU.symm
        have HF : Hid (ds.getD (p + (s + j)) 0 = 10 ∧ (∀ i, i < j → ds.getD (p + (s + i)) 0 ≠ 10) ∧ s + j < k ∧ s + j = i ∧ i + 1 = i1 ∧ r + i = y ∧ y + 1 = y1) := ⟨hj10, hjn, hj, hi, hi1, hy, hy1⟩
        clear hj10 hjn hz hIX hj hi hi1 hy hy1 hx hw hs hno hkp E1 st h1 hdat hrk hpk hgk
        go_wp2
        go_region_held3 (fun w' => w'.cell? ⟨B, 0, none⟩ = some (.slice (some ⟨U, 0, none⟩) C C) ∧ w'.cell? ⟨B, 2, none⟩ = some (.int .i64 r) ∧ w'.cell? ⟨B, 3, none⟩ = some (.int .i64 w)) (go_keep) ((go_at_call 24; refine Calls.mono (HIX.out _ (by exact fun _ => rfl)) ?_; rintro _ _ ⟨rfl, rfl⟩))
        all_goals
          generalize (if C = x then some (⟨U, 0, none⟩ : Addr) else some ⟨U, x, none⟩) = sv
          go_wp2
          go_quiet (fail)
          go_wp2
          go_ret2
          show SliceOut C B U R sa ds p ea fa W (.returned (.tuple #[.slice (some ⟨U, r, none⟩) i1 (C - r), .nilIface])) _
          exact found_out HST.out rfl HD.out HX.out HF.out hKP.out hLN.out hNO.out _
      · rw [hz] at hIX
        obtain ⟨pa, hpa⟩ : ∃ pa : Option Addr, (if C = x then some ⟨U, 0, none⟩ else some ⟨U, x, none⟩) = pa := ⟨_, rfl⟩
        rw [hpa] at hIX
        have HIX : Hid (∀ w', (∀ a, w'.cell? a = wr.cell? a) → Calls Tryd.prog 24 #[.slice pa (w - x) (C - x), .int .u8 10] w' fun e W' => e = .returned (.int .i64 (-1)) ∧ W' = w') := hIX
        have kI : (w : Int) - (r : Int) = (k : Int) := by omega
        have kN : w - r = k := by omega
        have kW := wrap_small k (by omega)
        have hRG : Hid (ds.length - (p + k) + 2 ≤ gk) := hgk
        have HN : Hid (NoLF ds p k) := by
          intro j hj
          rcases Nat.lt_or_ge j s with h2 | h2
          · exact hno j h2
          · have h3 := hjn (j - s) (by omega)
            rwa [show s + (j - s) = j by omega] at h3
        have f2 := st.hB.free 2
        have f5 := st.hB.free 5
        have f6 := st.hB.free 6
        have BU : B ≠ U := st.BU
        have UB : U ≠ B := st.BU.symm
        have cF : wr.cell? ⟨0, 0, none⟩ = some (.iface 65 (.pointer (some fa))) := E1.full
        have B0 : B ≠ 0 := fun e => E1.n0 (.inl e.symm)
        have B00 : 0 ≠ B := B0.symm
        rcases Nat.lt_or_ge k C with hkC | hkC
        · have k1 : (k : Int) < (C : Int) := by omega
          have k2 : ¬ (C : Int) ≤ (k : Int) := by omega
          clear hjn hz hIX hx hw hs hno hkp E1 st h1 hdat hrk hgk
          go_wp2
          go_region_held3 (fun w' => w'.cell? ⟨B, 0, none⟩ = some (.slice (some ⟨U, 0, none⟩) C C) ∧ w'.cell? ⟨B, 2, none⟩ = some (.int .i64 r) ∧ w'.cell? ⟨B, 3, none⟩ = some (.int .i64 w)) (go_keep) ((go_at_call 24; refine Calls.mono (HIX.out _ (by exact fun _ => rfl)) ?_; rintro _ _ ⟨rfl, rfl⟩))
          all_goals
            go_wp2
            go_region_held3 (fun w' => w'.cell? ⟨B, 0, none⟩ = some (.slice (some ⟨U, 0, none⟩) C C) ∧ w'.cell? ⟨B, 2, none⟩ = some (.int .i64 r) ∧ w'.cell? ⟨B, 3, none⟩ = some (.int .i64 w)) (go_keep) ((go_at_call 26; refine Calls.mono (buffered B r w k _ (by simpa using c2) (by simpa using c3) HX.out.2.1 (by have := HX.out.2.2.2.2; omega)) ?_; rintro _ _ ⟨rfl, q3, rfl⟩))
            all_goals
              go_wp2
              go_quiet (fail)
              rcases Nat.lt_or_ge (p + k) ds.length with hmore | hend
              · go_wp2_with ((go_at_call 27; refine Calls.mono (fill_more C B U R sa ds p k r ea fa _ hC (Env.keep hE1.out (Keep.drewN (Keep.refl _ wr) _)) (hRD.out.drewN _) hkC hmore) ?_; rintro _ W5 ⟨rfl, KP5, n5, hn5, RD5, _⟩))
                go_roundg (ds.length - (p + (k + n5)) + 2)
                case measure => have h2 := hRG.out; have h3 := RD5.2.1; omega
                case rel => exact ⟨k, rfl, rfl, rfl, k + n5, 0, by omega, HN.out, hKP.out.trans ((Keep.drewN (Keep.refl _ wr) _).trans KP5), .inl ⟨RD5, Nat.le_refl _⟩⟩
              · go_wp2_with ((go_at_call 27; refine Calls.mono (fill_end C B U R sa ds p k r ea fa _ hC (Env.keep hE1.out (Keep.drewN (Keep.refl _ wr) _)) (hRD.out.drewN _) hkC (Nat.le_antisymm HX.out.2.2.2.1 hend)) ?_; rintro _ W5 ⟨rfl, KP5, RD5⟩))
                go_roundg 1
                case measure => have h2 := hRG.out; omega
                case rel => exact ⟨k, rfl, rfl, rfl, k, 0, Nat.le_refl _, HN.out, hKP.out.trans ((Keep.drewN (Keep.refl _ wr) _).trans KP5), .inr ⟨RD5, rfl, rfl, Nat.le_antisymm HX.out.2.2.2.1 hend, hkC, Nat.le_refl _⟩⟩
        · obtain rfl : k = C := by omega
          obtain rfl : r = 0 := by omega
          obtain rfl : w = k := by omega
          obtain rfl : s = x := by omega
          obtain ⟨c1, hc1⟩ : ∃ c1, c1 + 1 = w := ⟨w - 1, by omega⟩
          have b0 := hb
          obtain ⟨b1, hb1⟩ : ∃ b1, ds.getD (p + c1) 0 = b1 := ⟨_, rfl⟩
          have cU : wr.cell? ⟨U, c1, none⟩ = some (.int .u8 b1) := by have hh := hLN.out c1 (by omega); rwa [hb1, Nat.zero_add] at hh
          have hbb : 0 ≤ b1 ∧ b1 < 256 := hb b1 (by rw [← hb1, List.getD_eq_getElem?_getD, List.getElem?_eq_getElem (by omega)]; exact List.getElem_mem _)
          have bW : IntKind.i64.wrap b1 = b1 := IntWalk.i64_in b1 (by omega)
          have cI : (w : Int) - 1 = (c1 : Int) := by omega
          have cW := wrap_small c1 (by omega)
          have c10 : (0 : Int) ≤ (c1 : Int) := by omega
          have c11 : (c1 : Int) < (w : Int) := by omega
          have c2 : wr.cell? ⟨B, 2, none⟩ = some (.int .i64 0) := c2
          clear hjn hz hIX hx hw hs hno hkp E1 st h1 hdat hrk hgk hc1 hbb kN kI hb1
          go_wp2
          go_region_held3 (fun w' => w'.cell? ⟨B, 0, none⟩ = some (.slice (some ⟨U, 0, none⟩) w w) ∧ w'.cell? ⟨B, 2, none⟩ = some (.int .i64 0) ∧ w'.cell? ⟨B, 3, none⟩ = some (.int .i64 w)) (go_keep) ((go_at_call 24; refine Calls.mono (HIX.out _ (by exact fun _ => rfl)) ?_; rintro _ _ ⟨rfl, rfl⟩))
          all_goals
            go_wp2
            go_region_held3 (fun w' => w'.cell? ⟨B, 0, none⟩ = some (.slice (some ⟨U, 0, none⟩) w w) ∧ w'.cell? ⟨B, 2, none⟩ = some (.int .i64 0) ∧ w'.cell? ⟨B, 3, none⟩ = some (.int .i64 w)) (go_keep) ((go_at_call 26; refine Calls.mono (buffered B 0 w w _ (by simpa using c2) (by simpa using c3) HX.out.2.1 hC) ?_; rintro _ _ ⟨rfl, q3, rfl⟩))
            all_goals
              go_wp2
              go_ret2
              show SliceOut w B U R sa ds p ea fa W (.returned (.tuple #[.slice (some ⟨U, 0, none⟩) w w, .iface 65 (.pointer (some fa))])) _
              exact full_out HST.out HD.out hpk hKP.out hLN.out HN.out _ b1
    · have hLN : Hid (Line wr U 0 s ds p) := hrd.line
      obtain ⟨hrk, hpk, lb, lr, pr, cur, st, h1, hdat⟩ := hrd
      rw [Nat.zero_add] at st
      have c0 : wr.cell? ⟨B, 0, none⟩ = some (.slice (some ⟨U, 0, none⟩) C C) := st.hB.cell 0
      have c2 : wr.cell? ⟨B, 2, none⟩ = some (.int .i64 0) := st.hB.cell 2
      have c3 : wr.cell? ⟨B, 3, none⟩ = some (.int .i64 s) := st.hB.cell 3
      have c4 : wr.cell? ⟨B, 4, none⟩ = some (.iface 65 (.pointer (some ea))) := st.hB.cell 4
      have c5 : wr.cell? ⟨B, 5, none⟩ = some (.int .i64 lb) := st.hB.cell 5
      have c6 : wr.cell? ⟨B, 6, none⟩ = some (.int .i64 lr) := st.hB.cell 6
      have f2 := st.hB.free 2
      have f4 := st.hB.free 4
      have f5 := st.hB.free 5
      have f6 := st.hB.free 6
      have x1 : (s : Int) ≤ (C : Int) := by omega
      have x3 : (0 : Int) ≤ (s : Int) := by omega
      have x4 : ¬ C = s := by omega
      have x5 : ¬ C = 0 := by omega
      have sW := wrap_small s (by omega)
      have BU : B ≠ U := st.BU
      have UB : U ≠ B := st.BU.symm
      have hIX : ∀ w', (∀ a, w'.cell? a = wr.cell? a) → Calls Tryd.prog 24 #[.slice (if C = s then some ⟨U, 0, none⟩ else some ⟨U, s, none⟩) (s - s) (C - s), .int .u8 10] w' fun e W' => e = .returned (.int .i64 (Lib.indexByte (Lib.bytesOf ((ds.drop (p + s)).take (s - s))) (10 : Int).toNat.toUInt8)) ∧ W' = w' :=
        fun w' hw' => index_call w' C U 0 s s s s ds p (Nat.le_refl _) hpk (Nat.zero_add _) (Nat.zero_add _) (by omega) (fun j hj => (hw' _).trans (hLN.out j hj))
      rcases index_fact ds hb p s s (Nat.le_refl _) hpk with ⟨j, hj, _⟩ | ⟨hz, _⟩
      · omega
      · rw [hz, if_neg x4, Nat.sub_self] at hIX
        have HIX : Hid (∀ w', (∀ a, w'.cell? a = wr.cell? a) → Calls Tryd.prog 24 #[.slice (some ⟨U, s, none⟩) 0 (C - s), .int .u8 10] w' fun e W' => e = .returned (.int .i64 (-1)) ∧ W' = w') := hIX
        have HST : Hid (St wr C B U R sa ds.length 0 s (p + s) (.iface 65 (.pointer (some ea))) lb lr pr cur) := st
        have HD : Hid ((∀ v ∈ cur, v.oneCell' = true) ∧ ∀ j, j < s → cur[0 + j]? = some (iv (ds.getD (p + j) 0))) := ⟨h1, hdat⟩
        rcases Nat.eq_zero_or_pos s with rfl | hs0
        · have c3 : wr.cell? ⟨B, 3, none⟩ = some (.int .i64 0) := c3
          have x6 : (0 : Int) ≤ (C : Int) := by omega
          have x7 : IntKind.i64.wrap 0 = 0 := rfl
          clear hIX hz st h1 hdat hkp hno E1 hrk
          go_wp2
          go_region_held3 (fun w' => w'.cell? ⟨B, 0, none⟩ = some (.slice (some ⟨U, 0, none⟩) C C) ∧ w'.cell? ⟨B, 2, none⟩ = some (.int .i64 0) ∧ w'.cell? ⟨B, 3, none⟩ = some (.int .i64 0)) (go_keep) ((go_at_call 24; refine Calls.mono (HIX.out _ (by exact fun _ => rfl)) ?_; rintro _ _ ⟨rfl, rfl⟩))
          all_goals
            go_wp2
            go_quiet (fail)
            go_wp2
            go_ret2
            show SliceOut C B U R sa ds p ea fa W (.returned (.tuple #[.slice (some ⟨U, 0, none⟩) 0 C, .iface 65 (.pointer (some ea))])) _
            refine eof_out HST.out HD.out hpe hkC hKP.out hLN.out hNO.out lb lr ?_ ?_
            · exact Keep.setB (Keep.setB (Keep.drewN (Keep.refl (· = B) wr) _) 2 _) 4 _
            · have hx := Blk.setCell (Blk.setCell (HST.out.hB.drewN (1 + nq)) 2 (.int .i64 0)) 4 .nilIface
              simpa using hx
        · obtain ⟨c1, hc1⟩ : ∃ c1, c1 + 1 = s := ⟨s - 1, by omega⟩
          obtain ⟨b1, hb1⟩ : ∃ b1, ds.getD (p + c1) 0 = b1 := ⟨_, rfl⟩
          have cU : wr.cell? ⟨U, c1, none⟩ = some (.int .u8 b1) := by have hh := hLN.out c1 (by omega); rwa [hb1, Nat.zero_add] at hh
          have hbb : 0 ≤ b1 ∧ b1 < 256 := hb b1 (by rw [← hb1, List.getD_eq_getElem?_getD, List.getElem?_eq_getElem (by omega)]; exact List.getElem_mem _)
          have bW : IntKind.i64.wrap b1 = b1 := IntWalk.i64_in b1 (by omega)
          have cI : (s : Int) - 1 = (c1 : Int) := by omega
          have cW := wrap_small c1 (by omega)
          have c10 : (0 : Int) ≤ (c1 : Int) := by omega
          have c11 : (c1 : Int) < (s : Int) := by omega
          clear hIX hz st h1 hdat hkp hno E1 hrk hc1 hb1 hbb
          go_wp2
          go_region_held3 (fun w' => w'.cell? ⟨B, 0, none⟩ = some (.slice (some ⟨U, 0, none⟩) C C) ∧ w'.cell? ⟨B, 2, none⟩ = some (.int .i64 0) ∧ w'.cell? ⟨B, 3, none⟩ = some (.int .i64 s)) (go_keep) ((go_at_call 24; refine Calls.mono (HIX.out _ (by exact fun _ => rfl)) ?_; rintro _ _ ⟨rfl, rfl⟩))
          all_goals
            go_wp2
            go_quiet (fail)
            go_wp2
            go_ret2
            show SliceOut C B U R sa ds p ea fa W (.returned (.tuple #[.slice (some ⟨U, 0, none⟩) s C, .iface 65 (.pointer (some ea))])) _
            refine eof_out HST.out HD.out hpe hkC hKP.out hLN.out hNO.out b1 (-1) ?_ ?_
            · exact Keep.setB (Keep.setB (Keep.setB (Keep.setB (Keep.drewN (Keep.refl (· = B) wr) _) 2 _) 4 _) 5 _) 6 _
            · have hx := Blk.setCell (Blk.setCell (Blk.setCell (Blk.setCell (HST.out.hB.drewN (1 + nq)) 2 (.int .i64 (s : Int))) 4 .nilIface) 5 (.int .i64 b1)) 6 (.int .i64 (-1))
              simpa using hx
end Go.Proofs.Qxb6612819aDoor
