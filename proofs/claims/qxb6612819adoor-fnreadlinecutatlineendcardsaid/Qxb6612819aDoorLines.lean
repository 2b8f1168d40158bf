/-
  zzReadAllLines (12): the lines, each in a row of its own.
-/
import Derived.Test.Qxb6612819aDoorGl
import Derived.Test.Qxb6612819aDoorPlain
import Derived.Maps.AppendAt
namespace Go.Proofs.Qxb6612819aDoor
open Go.RowKit

theorem Tryd.info22 : (Tryd.prog.info? 22).map (fun i => (i.zero, i.size, i.bytes)) = some (some (.slice none 0 0), 1, 24) := by kernel_rfl

theorem owns_base {w : World} {b base : Nat} {e : TypeId} {s n : Nat} {v : Value} {xs : List Value} (h : w.ownsRow b e s v n xs) (hb : base ≤ b) : w.ownsRow base e s v n xs := by
  refine ⟨h.1, ?_⟩
  rcases h.2 with h1 | ⟨g, cap, cur, h1, h2, h3⟩
  · exact .inl h1
  · exact .inr ⟨g, cap, cur, h1, Nat.le_trans hb h2, h3⟩
theorem owns_same {w w' : World} {base : Nat} {e : TypeId} {s n : Nat} {v : Value} {xs : List Value} (h : w.ownsRow base e s v n xs) (hs : ∀ g cur, base ≤ g → w.heap[g]? = some (.cells cur e (0, 0)) → w'.heap[g]? = w.heap[g]?) : w'.ownsRow base e s v n xs := by
  refine ⟨h.1, ?_⟩
  rcases h.2 with h1 | ⟨g, cap, cur, h1, h2, h3, h4⟩
  · exact .inl h1
  · exact .inr ⟨g, cap, cur, h1, h2, (hs g cur h2 h3).trans h3, h4⟩
theorem lt_of_heap {w : World} {g : Nat} {o : Obj} (h : w.heap[g]? = some o) : g < w.heap.size := by
  rcases Nat.lt_or_ge g w.heap.size with hh | hh
  · exact hh
  · rw [Array.getElem?_eq_none hh] at h; cases h

/-- Each value is a row of its own that holds the bytes of the line. -/
def RowsAt (w : World) (base : Nat) (vs : List Value) (ws : List (List Int)) : Prop :=
  vs.length = ws.length ∧ ∀ (i : Nat) (v : Value) (x : List Int), vs[i]? = some v → ws[i]? = some x → w.ownsRow base 5 1 v x.length (x.map (Value.int .u8))

theorem RowsAt.same {w w' : World} {base : Nat} {vs : List Value} {ws : List (List Int)} (h : RowsAt w base vs ws) (hs : ∀ g cur, base ≤ g → w.heap[g]? = some (.cells cur 5 (0, 0)) → w'.heap[g]? = w.heap[g]?) : RowsAt w' base vs ws :=
  ⟨h.1, fun i v x hv hx => owns_same (h.2 i v x hv hx) hs⟩
theorem RowsAt.base {w : World} {b base : Nat} {vs : List Value} {ws : List (List Int)} (h : RowsAt w b vs ws) (hb : base ≤ b) : RowsAt w base vs ws :=
  ⟨h.1, fun i v x hv hx => owns_base (h.2 i v x hv hx) hb⟩
theorem RowsAt.snoc {w : World} {base : Nat} {vs : List Value} {ws : List (List Int)} {v : Value} {x : List Int} (h : RowsAt w base vs ws) (hv : w.ownsRow base 5 1 v x.length (x.map (Value.int .u8))) : RowsAt w base (vs ++ [v]) (ws ++ [x]) := by
  refine ⟨by simp [h.1], fun i u y hu hy => ?_⟩
  rw [List.getElem?_append] at hu hy
  have hl := h.1
  by_cases hi : i < vs.length
  · rw [if_pos hi] at hu; rw [if_pos (by omega)] at hy
    exact h.2 i u y hu hy
  · rw [if_neg hi] at hu; rw [if_neg (by omega)] at hy
    by_cases h0 : i - vs.length = 0
    · rw [h0] at hu; rw [show i - ws.length = 0 by omega] at hy
      simp at hu hy
      subst hu; subst hy; exact hv
    · rw [List.getElem?_eq_none (by simp; omega)] at hu; cases hu

theorem Rd.same {W W' : World} {C B U R : Nat} {sa : Option Addr} {ds : List Int} {p k r : Nat} {ev : Value} (h : Rd W C B U R sa ds p k r ev) (hs : ∀ j, Three B U R j → W'.heap[j]? = W.heap[j]?) : Rd W' C B U R sa ds p k r ev := by
  obtain ⟨a, b, lb, lr, pr, cur, st, c, d⟩ := h
  exact ⟨a, b, lb, lr, pr, cur, ⟨(hs _ (.inl rfl)).trans st.hB, (hs _ (.inr (.inr rfl))).trans st.hR, (hs _ (.inr (.inl rfl))).trans st.hU, st.len, st.BU, st.BR, st.RU⟩, c, d⟩

/-- At the head of zzReadAllLines's loop. -/
def AllRel (C B U R : Nat) (sa : Option Addr) (ds : List Int) (W1 : World) (gk : Nat) (s5 s6 : Value) (wr : World) : Prop :=
  ∃ vs ws p k r i la lc, s6 = .int .i64 (i : Nat) ∧ s5 = .slice la i lc ∧ i ≤ p ∧ p ≤ ds.length ∧ ds.length + 1 - p ≤ gk ∧ vs.length = i ∧ Rd wr C B U R sa ds p k r .nilIface ∧ Keep (Three B U R) W1 wr ∧
    wr.ownsRow W1.heap.size 22 1 (.slice la i lc) i vs ∧ RowsAt wr W1.heap.size vs ws ∧ ws ++ linesOf C (ds.drop p) = linesOf C ds

theorem nextPos_gt (ds : List Int) (p L : Nat) (hp : p < ds.length) (h : IsLine ds p L) : p < nextPos ds p L ∧ nextPos ds p L ≤ ds.length := by
  have := h.le
  unfold nextPos
  split
  · omega
  · rcases h.stop with e | e
    · constructor <;> omega
    · by_cases h0 : L = 0
      · omega
      · omega

theorem own_shape {w : World} {base : Nat} {e : TypeId} {n : Nat} {v : Value} {xs : List Value} (h : w.ownsRow base e 1 v n xs) : ∃ a c, v = .slice a n c ∧ (n = 0 ∨ ∃ g, a = some ⟨g, 0, none⟩ ∧ ∀ j, j < n → w.cell? ⟨g, j, none⟩ = xs[j]?) := by
  rcases h.2 with ⟨rfl, h1⟩ | ⟨g, cap, cur, rfl, h2, h3, h4, h5, h6, h7⟩
  · rw [h1]; exact ⟨none, 0, rfl, .inl rfl⟩
  · refine ⟨_, cap, rfl, .inr ⟨g, rfl, fun j hj => ?_⟩⟩
    have h8 := congrArg (fun l => l[j]?) h7
    simp only [List.getElem?_take] at h8
    rw [if_pos (by omega), Array.getElem?_toList] at h8
    rw [← h8]
    simp [World.cell?, h3]

theorem AllRel.next {C B U R : Nat} {sa : Option Addr} {ds : List Int} {W1 wr W' w2 : World} {vs : List Value} {ws : List (List Int)} {p L k r i b : Nat} {s5 s6 v v2 : Value} {o : Obj}
    (h3 : ∀ j, Three B U R j → j < W1.heap.size) (hp : p < ds.length) (hL : IsLine ds p L) (hi : i ≤ p) (hvi : vs.length = i) (hk1 : Keep (Three B U R) W1 wr) (hown : wr.ownsRow W1.heap.size 22 1 s5 i vs) (hrows : RowsAt wr W1.heap.size vs ws) (hlines : ws ++ linesOf C (ds.drop p) = linesOf C ds)
    (hrd : Rd W' C B U R sa ds (nextPos ds p L) k r .nilIface) (hk : Keep (Three B U R) wr W') (hb : wr.heap.size ≤ b) (hv : W'.ownsRow b 5 1 v (want ds C p L).length ((want ds C p L).map (Value.int .u8)))
    (hown2 : w2.ownsRow W1.heap.size 22 1 v2 (i + 1) (vs ++ [v])) (hgr : (W'.alloc o).grownBy w2 s5.ownBlock) (hs6 : s6 = .int .i64 ((i + 1 : Nat) : Int)) :
    AllRel C B U R sa ds W1 (ds.length + 1 - nextPos ds p L) v2 s6 w2 := by
  obtain ⟨n1, n2⟩ := nextPos_gt ds p L hp hL
  have hrow : ∀ g, s5.ownBlock = some g → W1.heap.size ≤ g ∧ ∃ cur, (W'.alloc o).heap[g]? = some (.cells cur 22 (0, 0)) := by
    intro g hg
    have ho := owns_keep hown hk h3
    rcases ho.2 with ⟨rfl, _⟩ | ⟨g', cap, cur, rfl, e2, e3, _⟩
    · cases hg
    · cases hg
      exact ⟨e2, cur, (Below.heap_alloc W' o _ (lt_of_heap e3)).trans e3⟩
  have hblk : ∀ j, j < W1.heap.size → w2.heap[j]? = W'.heap[j]? := by
    intro j hj
    have hjw : j < W'.heap.size := Nat.lt_of_lt_of_le hj (Nat.le_trans hk1.size hk.size)
    refine (hgr.block j (by rw [World.size_alloc]; omega) (fun e => ?_)).trans (Below.heap_alloc W' o j hjw)
    have := (hrow j e.symm).1
    omega
  obtain ⟨la, lc, rfl, _⟩ := own_shape hown2
  refine ⟨vs ++ [v], ws ++ [want ds C p L], nextPos ds p L, k, r, i + 1, la, lc, hs6, rfl, by omega, n2, Nat.le_refl _, by simp [hvi], Rd.same hrd (fun j hj => hblk j (h3 j hj)), ?_, ?_, ?_, ?_⟩
  · have kk := hk1.trans hk
    exact ⟨hgr.os.trans kk.os, hgr.tape.trans kk.tape, hgr.output.trans kk.output, Nat.le_trans kk.size (Nat.le_trans (by rw [World.size_alloc]; omega) hgr.size), fun j hj hn => (hblk j hj).trans (kk.block j hj hn)⟩
  · exact hown2
  · have r1 : RowsAt W' W1.heap.size vs ws := hrows.same (fun g cur hg hc => hk.block g (lt_of_heap hc) (fun ht => by have := h3 g ht; omega))
    have r2 := r1.snoc (owns_base hv (Nat.le_trans hk1.size hb))
    refine r2.same (fun g cur hg hc => ?_)
    have hlt := lt_of_heap hc
    have e1 := Below.heap_alloc W' o g hlt
    refine (hgr.block g (by rw [World.size_alloc]; omega) (fun e => ?_)).trans e1
    obtain ⟨_, cur', e2⟩ := hrow g e.symm
    rw [e1, hc] at e2
    injection e2 with e2
    injection e2 with _ e2
    exact absurd e2 (by decide)
  · rw [List.append_assoc, List.singleton_append, ← linesOf_step C ds p L hp hL]
    exact hlines

/-- What zzReadAllLines hands back. -/
def AllOut (C : Nat) (ds : List Int) (W : World) (e : Ending) (W' : World) : Prop :=
  ∃ v vs, e = .returned (.tuple #[v, .bool true]) ∧ W'.ownsRow W.heap.size 22 1 v vs.length vs ∧ RowsAt W' W.heap.size vs (linesOf C ds) ∧ Below W.heap.size W W'

theorem all_end {C B U R : Nat} {ds : List Int} {W W1 wr W5 : World} {vs : List Value} {ws : List (List Int)} {i : Nat} {v : Value} (h3 : ∀ j, Three B U R j → j < W1.heap.size) (hsz : W.heap.size ≤ W1.heap.size) (hvi : vs.length = i) (hown : wr.ownsRow W1.heap.size 22 1 v i vs) (hrows : RowsAt wr W1.heap.size vs ws) (hlines : ws ++ linesOf C (ds.drop ds.length) = linesOf C ds) (hk : Keep (Three B U R) wr W5) (hb : Below W.heap.size W W5) :
    AllOut C ds W (.returned (.tuple #[v, .bool true])) W5 := by
  rw [linesOf_end C ds _ (Nat.le_refl _), List.append_nil] at hlines
  refine ⟨v, vs, rfl, ?_, ?_, hb⟩
  · rw [hvi]; exact owns_base (owns_keep hown hk h3) hsz
  · rw [← hlines]
    exact (hrows.same (fun g cur hg hc => hk.block g (lt_of_heap hc) (fun ht => by have := h3 g ht; omega))).base hsz

set_option maxRecDepth 20000 in
set_option maxHeartbeats 4000000 in
theorem read_all (C : Nat) (hC : C = 10000) (ea fa : Addr) (sa : Option Addr) (ds : List Int) (W : World) (g : Gl W ea fa) (hbs : Bytes ds) (hsz : ds.length ≤ 2097153)
    (hs : ds = [] ∨ ∃ D, sa = some ⟨D, 0, none⟩ ∧ D < W.heap.size ∧ ∀ j, j < ds.length → W.cell? ⟨D, j, none⟩ = some (.int .u8 (ds.getD j 0))) :
    Calls Tryd.prog 12 #[.slice sa ds.length ds.length] W (AllOut C ds W) := by
  obtain ⟨i0, hi, hz0, hz1, hz2⟩ := info_parts Tryd.info22
  have HC : Hid (C = 10000) := hC
  clear hC
  have HG : Hid (Gl W ea fa) := g
  have HS : Hid (ds = [] ∨ ∃ D, sa = some ⟨D, 0, none⟩ ∧ D < W.heap.size ∧ ∀ j, j < ds.length → W.cell? ⟨D, j, none⟩ = some (.int .u8 (ds.getD j 0))) := hs
  clear g hs
  go_enter Tryd.func12, Tryd.ntmps12
  go_wp2_with ((go_at_call 8; refine Calls.mono (new_reader C HC.out sa ds W) ?_; rintro _ W1 ⟨B, U, R, rfl, h3, hb3, hrd⟩; have H3 : Hid _ := h3; have HB3 : Hid _ := hb3; have HRD : Hid _ := hrd; clear h3 hb3 hrd))
  have HGR : Hid (∀ w', Keep (Three B U R) W1 w' → Env w' B U R sa ds ea fa ∧ Errs w' B U R ea fa ∧ Below W.heap.size W w') :=
    ground HG.out HB3.out (m := W.heap.size) (Nat.le_refl _) (fun k hk => (H3.out k hk).1) (by omega) (by
      rcases HS.out with h1 | ⟨D, h1, h3, h4⟩
      · exact .inl h1
      · exact .inr ⟨D, h1, h3, fun j hj => (HB3.out.cell (p := ⟨D, j, none⟩) h3).trans (h4 j hj)⟩)
  go_loopg [5, 6] (ds.length + 1) (fun gk s5 s6 wr => AllRel C B U R sa ds W1 gk s5 s6 wr)
  case atStart =>
    exact ⟨[], [], 0, 0, 0, 0, none, 0, rfl, rfl, Nat.le_refl _, Nat.zero_le _, Nat.le_refl _, rfl, HRD.out, Keep.refl _ _, World.ownsRow_nil _ _ _ _, ⟨rfl, fun i v x hv => by simp at hv⟩, by rw [List.drop_zero, List.nil_append]⟩
  case round =>
    obtain ⟨vs, ws, p, k, r, i, la, lc, rfl, rfl, hip, hpN, hgk, hvi, hrd, hkp, hown, hrows, hlines⟩ := hrel
    have HGK : Hid (ds.length + 1 - p ≤ gk) := hgk
    have HE : Hid (Env wr B U R sa ds ea fa) := (HGR.out _ hkp).1
    have HF : Hid (Errs wr B U R ea fa) := (HGR.out _ hkp).2.1
    have HKP : Hid (Keep (Three B U R) W1 wr) := hkp
    have HRD1 : Hid (Rd wr C B U R sa ds p k r .nilIface) := hrd
    have HOWN : Hid (wr.ownsRow W1.heap.size 22 1 (.slice la i lc) i vs) := hown
    have HROWS : Hid (RowsAt wr W1.heap.size vs ws) := hrows
    have HLN : Hid (ws ++ linesOf C (ds.drop p) = linesOf C ds) := hlines
    clear hgk hrd hkp hown hrows hlines
    by_cases hlt : p < ds.length
    · obtain ⟨L, hL⟩ := line_at ds p (Nat.le_of_lt hlt)
      have HL : Hid (IsLine ds p L) := hL
      clear hL
      go_wp2_with (first
        | (go_at_call 9; refine Calls.mono (zz_line C B U R sa ds p k r L ea fa wr HC.out hbs HE.out HF.out HRD1.out HL.out hlt) ?_; rintro _ W5 ⟨v, b, k5, r5, rfl, hrd5, hk5, hb5, hv5⟩; obtain ⟨va, vc, rfl, _⟩ := own_slice hv5; have HR5 : Hid _ := hrd5; have HK5 : Hid _ := hk5; have HB5 : Hid _ := hb5; have HV5 : Hid _ := hv5; clear hrd5 hk5 hb5 hv5)
        | (at_builtin; refine (wpList_append_own_at _ rfl (.tmp 29) (.tmp 31) 32 rfl W1.heap.size 22 i0 (.slice none 0 0) 1 24 Tryd.underlying32 hi hz0 hz1 hz2 rfl (by decide) (.slice la i lc) i vs rfl (by exact (owns_keep HOWN.out HK5.out (fun j hj => (H3.out j hj).2)).alloc _) ⟨W5.heap.size, 0, none⟩ 1 1 [.slice va (want ds C p L).length vc] rfl rfl (by intro t u ht; match t, ht with | 0, ht => simp at ht; subst ht; simp [Addr.add]) (by intro u hu; simp at hu; subst hu; rfl) (by unfold maxLen; omega) (by omega) (by rw [World.size_alloc]; have h1 := HKP.out.size; have h2 := HK5.out.size; omega) ?_); intro v2 w2 hown2 hgr2 _ _; have HO2 : Hid _ := hown2; have HG2 : Hid _ := hgr2; clear hown2 hgr2))
      go_roundg (ds.length + 1 - nextPos ds p L)
      case measure => have h1 := HGK.out; have h2 := (nextPos_gt ds p L hlt HL.out).1; omega
      case rel => exact AllRel.next (fun j hj => (H3.out j hj).2) hlt HL.out hip hvi HKP.out HOWN.out HROWS.out HLN.out HR5.out HK5.out HB5.out HV5.out HO2.out HG2.out (by go_num)
    · obtain rfl : p = ds.length := by omega
      go_wp2_with ((go_at_call 9; refine Calls.mono (zz_end C B U R sa ds ds.length k r ea fa wr HC.out hbs HE.out HF.out HRD1.out rfl) ?_; rintro _ W5 ⟨rfl, hk5⟩; have HK5 : Hid _ := hk5; clear hk5))
      go_ret2
      exact all_end (fun j hj => (H3.out j hj).2) HB3.out.size hvi HOWN.out HROWS.out HLN.out HK5.out (HGR.out _ (HKP.out.trans HK5.out)).2.2
end Go.Proofs.Qxb6612819aDoor
