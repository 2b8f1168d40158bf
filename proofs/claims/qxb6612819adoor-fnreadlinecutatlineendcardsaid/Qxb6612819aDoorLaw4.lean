/-
  FnReadLineCutAtLineEnd (4).
-/
import Derived.Test.Qxb6612819aDoorPart
namespace Go.Proofs.Qxb6612819aDoor
open Go.RowKit

theorem getD_app (xs t : List Int) (i : Nat) (h : i < xs.length) : (xs ++ t).getD i 0 = xs.getD i 0 := by
  rw [List.getD_eq_getElem?_getD, List.getElem?_append_left h, List.getD_eq_getElem?_getD]
theorem getD_mid (xs t : List Int) (n : Nat) (h : xs.length = n) : (xs ++ 10 :: t).getD n 0 = 10 := by
  subst h; rw [List.getD_eq_getElem?_getD, List.getElem?_append_right (Nat.le_refl _), Nat.sub_self]; rfl
theorem getD_end (xs t : List Int) (n j : Nat) (h : xs.length = n) : (xs ++ 10 :: t).getD (n + 1 + j) 0 = t.getD j 0 := by
  subst h
  rw [List.getD_eq_getElem?_getD, List.getElem?_append_right (by omega), show xs.length + 1 + j - xs.length = j + 1 by omega, List.getElem?_cons_succ, List.getD_eq_getElem?_getD]

/-- At the head of the first loop: i bytes of a lie in both rows. -/
def Cut1 (n : Nat) (xs zs us : List Int) (P : Nat) (W2 : World) (s7 s8 : Value) (wr : World) : Prop :=
  ∃ i k, i ≤ n ∧ breaks (xs.take i) = k ∧ k ≤ i ∧ s8 = .int .i64 (i : Nat) ∧ s7 = .int .i64 (k : Nat) ∧ Part P wr zs i ∧ Part (P + 1) wr us i ∧ Below P W2 wr
/-- At the head of the second loop: j bytes of b lie behind them. -/
def Cut2 (n m : Nat) (zs us : List Int) (P : Nat) (W2 : World) (s9 : Value) (wr : World) : Prop :=
  ∃ j, j ≤ m ∧ s9 = .int .i64 (j : Nat) ∧ Part P wr zs (n + 1 + j) ∧ Part (P + 1) wr us (n + 1) ∧ Below P W2 wr

theorem breaks_take (xs : List Int) (i : Nat) (h : i < xs.length) (z : Int) (hz : xs.getD i 0 = z) : breaks (xs.take (i + 1)) = breaks (xs.take i) + (if z = 10 then 1 else 0) := by
  subst hz
  rw [List.take_add_one, List.getElem?_eq_getElem h, List.getD_eq_getElem?_getD, List.getElem?_eq_getElem h]
  exact breaks_snoc _ _

theorem Cut1.start (n : Nat) (xs zs us : List Int) (nz nl : Nat) (W2 : World) (hz : zs.length = nz) (hu : us.length = nl) :
    Cut1 n xs zs us W2.heap.size W2 (.int .i64 0) (.int .i64 0) ((W2.alloc (.cells (madeCells #[.int .u8 0] nz) 5)).alloc (.cells (madeCells #[.int .u8 0] nl) 5)) := by
  have h2 := Part.made (W2.alloc (.cells (madeCells #[.int .u8 0] nz) 5)) us nl hu
  rw [World.size_alloc] at h2
  exact ⟨0, 0, Nat.zero_le _, rfl, Nat.le_refl _, rfl, rfl, (Part.made W2 zs nz hz).alloc _, h2, Below.alloc (Below.alloc (Below.refl _ _) (Nat.le_refl _) _) (by rw [World.size_alloc]; omega) _⟩

/-- What the two stores of a round read and leave. -/
theorem cut_round {P D i : Nat} {wr : World} {zs us : List Int} {z : Int} (h1 : Part P wr zs i) (h2 : Part (P + 1) wr us i) (hD : D < P) (hz : i < zs.length) (hu : i < us.length) (ez : zs.getD i 0 = z) (eu : us.getD i 0 = z) (c0 : wr.cell? ⟨D, i, none⟩ = some (.int .u8 z)) :
    (∃ y, wr.cell? ⟨P, i, none⟩ = some (.int .u8 y)) ∧ wr.frozen? ⟨P, i, none⟩ = false ∧ (wr.setCell ⟨P, i, none⟩ (.int .u8 z)).cell? ⟨D, i, none⟩ = some (.int .u8 z) ∧ (∃ y, (wr.setCell ⟨P, i, none⟩ (.int .u8 z)).cell? ⟨P + 1, i, none⟩ = some (.int .u8 y)) ∧ (wr.setCell ⟨P, i, none⟩ (.int .u8 z)).frozen? ⟨P + 1, i, none⟩ = false ∧
      ((wr.setCell ⟨P, i, none⟩ (.int .u8 z)).setCell ⟨P + 1, i, none⟩ (.int .u8 z)).cell? ⟨D, i, none⟩ = some (.int .u8 z) ∧
      Part P ((wr.setCell ⟨P, i, none⟩ (.int .u8 z)).setCell ⟨P + 1, i, none⟩ (.int .u8 z)) zs (i + 1) ∧ Part (P + 1) ((wr.setCell ⟨P, i, none⟩ (.int .u8 z)).setCell ⟨P + 1, i, none⟩ (.int .u8 z)) us (i + 1) := by
  have n1 : ∀ w v, (World.setCell w ⟨P, i, none⟩ v).cell? ⟨D, i, none⟩ = w.cell? ⟨D, i, none⟩ := fun w v => World.cell?_setCell_other _ _ _ _ (fun e => by injection e with e1; omega)
  have n2 : ∀ w v, (World.setCell w ⟨P + 1, i, none⟩ v).cell? ⟨D, i, none⟩ = w.cell? ⟨D, i, none⟩ := fun w v => World.cell?_setCell_other _ _ _ _ (fun e => by injection e with e1; omega)
  have g2 := h2.other ⟨P, i, none⟩ (.int .u8 z) (by simp)
  exact ⟨h1.there i hz, h1.free i, (n1 _ _).trans c0, g2.there i hu, g2.free i, (n2 _ _).trans ((n1 _ _).trans c0), (h1.store hz ez).other ⟨P + 1, i, none⟩ _ (by simp), g2.store hu eu⟩

theorem cut_lf {P n : Nat} {wr : World} {zs us : List Int} (h1 : Part P wr zs n) (h2 : Part (P + 1) wr us n) (hz : n < zs.length) (hu : n < us.length) (ez : zs.getD n 0 = 10) (eu : us.getD n 0 = 10) :
    (∃ y, wr.cell? ⟨P, n, none⟩ = some (.int .u8 y)) ∧ wr.frozen? ⟨P, n, none⟩ = false ∧ (∃ y, (wr.setCell ⟨P, n, none⟩ (.int .u8 10)).cell? ⟨P + 1, n, none⟩ = some (.int .u8 y)) ∧ (wr.setCell ⟨P, n, none⟩ (.int .u8 10)).frozen? ⟨P + 1, n, none⟩ = false ∧
      Part P ((wr.setCell ⟨P, n, none⟩ (.int .u8 10)).setCell ⟨P + 1, n, none⟩ (.int .u8 10)) zs (n + 1) ∧ Part (P + 1) ((wr.setCell ⟨P, n, none⟩ (.int .u8 10)).setCell ⟨P + 1, n, none⟩ (.int .u8 10)) us (n + 1) := by
  have g2 := h2.other ⟨P, n, none⟩ (.int .u8 10) (by simp)
  exact ⟨h1.there n hz, h1.free n, g2.there n hu, g2.free n, (h1.store hz ez).other ⟨P + 1, n, none⟩ _ (by simp), g2.store hu eu⟩

theorem Part.src {b : Nat} {wr w' : World} {zs : List Int} {k n : Nat} (h : Part b wr zs k) (hn : zs.length = n) (hk : n ≤ k) (hb : Below wr.heap.size wr w') : zs = [] ∨ ∃ D, (some ⟨b, 0, none⟩ : Option Addr) = some ⟨D, 0, none⟩ ∧ D < w'.heap.size ∧ ∀ j, j < zs.length → w'.cell? ⟨D, j, none⟩ = some (.int .u8 (zs.getD j 0)) :=
  .inr ⟨b, rfl, Nat.lt_of_lt_of_le h.size hb.size, fun j hj => (hb.cell (p := ⟨b, j, none⟩) h.size).trans (h.done j (by omega) hj)⟩
theorem clone_src {W W' w' : World} {r : Option Addr} {xs : List Int} (h : CloneAt W W' r xs) (hb : Below W'.heap.size W' w') : xs = [] ∨ ∃ D, r = some ⟨D, 0, none⟩ ∧ D < w'.heap.size ∧ ∀ j, j < xs.length → w'.cell? ⟨D, j, none⟩ = some (.int .u8 (xs.getD j 0)) := by
  rcases h with h | ⟨D, h1, _, h3, h4⟩
  · exact .inl h
  · exact .inr ⟨D, h1, Nat.lt_of_lt_of_le h3 hb.size, fun j hj => (hb.cell (p := ⟨D, j, none⟩) h3).trans (h4 j hj)⟩
theorem bytes_cut {xs ys zs : List Int} (hx : Bytes xs) (hy : Bytes ys) (h : xs ++ 10 :: ys = zs) : Bytes zs := by
  subst h
  intro v hv
  simp only [List.mem_append, List.mem_cons] at hv
  rcases hv with h | h | h
  · exact hx v h
  · subst h; omega
  · exact hy v h

theorem line_counts {C k n1 n2 n3 : Nat} {xs ys zs us : List Int} {vs1 vs2 vs3 : List Value} (hz : xs ++ 10 :: ys = zs) (hu : xs ++ [10] = us) (hk : breaks xs = k) (h1 : vs1.length = n1) (h2 : vs2.length = n2) (h3 : vs3.length = n3) (l1 : vs1.length = (linesOf C zs).length) (l2 : vs2.length = (linesOf C us).length) (l3 : vs3.length = (linesOf C ys).length) (hl : zs.length ≤ 1048577) :
    n2 = k + 1 ∧ n2 + n3 = n1 ∧ n1 ≤ 1048577 := by
  have h4 := linesOf_length C zs
  subst hz; subst hu
  have h5 := linesOf_count C xs
  have h6 := congrArg List.length (linesOf_lf C xs ys)
  rw [List.length_append] at h6
  omega

theorem line_le (C : Nat) (ds : List Int) (i : Nat) : ((linesOf C ds).getD i []).length ≤ C := by
  unfold linesOf
  rw [List.getD_eq_getElem?_getD, List.getElem?_map]
  cases (pieces ds)[i]? with
  | none => simp
  | some q =>
    simp only [Option.map_some, Option.getD_some]
    unfold want
    split
    · rw [List.length_take]; omega
    · have := trimLen_le q 0 q.length 13
      rw [List.length_take]; omega

/-- Two rows that hold the same line: what the comparison reads. -/
theorem two_lines {V : World} {b1 b2 n1 n2 c1 c2 i j : Nat} {a1 a2 : Option Addr} {vs1 vs2 : List Value} {w1 w2 : List (List Int)} (o1 : V.ownsRow b1 22 1 (.slice a1 n1 c1) n1 vs1) (o2 : V.ownsRow b2 22 1 (.slice a2 n2 c2) n2 vs2) (r1 : RowsAt V b1 vs1 w1) (r2 : RowsAt V b2 vs2 w2) (hi : i < n1) (hj : j < n2) (he : w1.getD i [] = w2.getD j []) :
    ∃ g1 g2 p1 p2 lx d1 d2, a1 = some ⟨g1, 0, none⟩ ∧ a2 = some ⟨g2, 0, none⟩ ∧ V.cell? ⟨g1, i, none⟩ = some (.slice p1 lx d1) ∧ V.cell? ⟨g2, j, none⟩ = some (.slice p2 lx d2) ∧ (w2.getD j []).length = lx ∧ Bs V p1 (w2.getD j []) ∧ Bs V p2 (w2.getD j []) := by
  have hl1 := o1.1
  have hl2 := o2.1
  obtain ⟨_, _, e1, h1⟩ := own_shape o1
  obtain ⟨_, _, e2, h2⟩ := own_shape o2
  injection e1 with e1
  injection e2 with e2
  subst e1; subst e2
  rcases h1 with h1 | ⟨g1, rfl, h1⟩
  · omega
  rcases h2 with h2 | ⟨g2, rfl, h2⟩
  · omega
  obtain ⟨p1, d1, k1, k2⟩ := r1.get i (by omega)
  obtain ⟨p2, d2, k3, k4⟩ := r2.get j (by omega)
  rw [he] at k1 k2
  exact ⟨g1, g2, p1, p2, _, d1, d2, rfl, rfl, (h1 i hi).trans k1, (h2 j hj).trans k3, rfl, k2, k4⟩

theorem Bs.drewN {w : World} {a : Option Addr} {xs : List Int} (h : Bs w a xs) (q : Nat) : Bs (w.drewN q) a xs := by
  rcases h with h | ⟨b, off, h1, h2, h3⟩
  · exact .inl h
  · exact .inr ⟨b, off, h1, h2, fun j hj => h3 j hj⟩

set_option maxRecDepth 20000 in
set_option maxHeartbeats 4000000 in
theorem law_four (C : Nat) (hC : C = 10000) (ea fa : Addr) (a b : Option Addr) (ca cb : Nat) (xs ys : List Int) (W : World) (g : Gl W ea fa) (hbx : Bytes xs) (hby : Bytes ys) (hx : Bs W a xs) (hy : Bs W b ys) (hna : a = none → xs = [] ∧ ca = 0) (hnb : b = none → ys = [] ∧ cb = 0) (hl : xs.length + ys.length ≤ 1048576) :
    Calls Tryd.prog 4 #[.slice a xs.length ca, .slice b ys.length cb] W fun e W' => e = .returned (.bool true) ∧ Below W.heap.size W W' := by
  have HC : Hid (C = 10000) := hC
  have HG : Hid (Gl W ea fa) := g
  have HX : Hid (Bs W a xs) := hx
  have HY : Hid (Bs W b ys) := hy
  have HNA : Hid (a = none → xs = [] ∧ ca = 0) := hna
  have HNB : Hid (b = none → ys = [] ∧ cb = 0) := hnb
  clear hC g hx hy hna hnb
  obtain ⟨n, hn⟩ : ∃ n, xs.length = n := ⟨_, rfl⟩
  obtain ⟨m, hm⟩ : ∃ m, ys.length = m := ⟨_, rfl⟩
  obtain ⟨nz, hnz⟩ : ∃ nz, n + 1 + m = nz := ⟨_, rfl⟩
  obtain ⟨nl, hnl⟩ : ∃ nl, n + 1 = nl := ⟨_, rfl⟩
  rw [hn, hm] at hl ⊢
  have HN : Hid (xs.length = n) := hn
  have HM : Hid (ys.length = m) := hm
  have HNZ : Hid (n + 1 + m = nz) := hnz
  have HNL : Hid (n + 1 = nl) := hnl
  clear hn hm hnz hnl
  have mk1 := make_bytes nz ((n : Int) + 1 + m) (by have := HNZ.out; omega) (by have := HNZ.out; omega)
  have mk2 := make_bytes nl ((n : Int) + 1) (by have := HNL.out; omega) (by have := HNL.out; omega)
  have i1 : ¬ (1048576 : Int) < (n : Int) := by omega
  have i2 : ¬ (1048576 : Int) - (n : Int) < (m : Int) := by omega
  go_enter Tryd.func4, Tryd.ntmps4
  go_wp2_with ((go_at_call 11; refine Calls.mono (bytes_two a b n m ca cb _ (by omega) (by omega)) ?_; rw [decide_eq_true hl]; rintro _ w2 ⟨rfl, hw⟩; rw [hw]; clear hw w2))
  go_wp2_with ((go_at_call 7; (with_reducible show Calls Tryd.prog 7 #[.slice a n ca] W _); have hcl := clone_any a ca xs W HX.out HNA.out (by rw [HN.out]; omega); rw [HN.out] at hcl; refine Calls.mono hcl ?_; clear hcl; rintro _ W1 ⟨r1, rfl, hb1, hr1⟩; have HB1 : Hid _ := hb1; have HR1 : Hid _ := hr1; clear hb1 hr1))
  go_wp2_with ((go_at_call 7; (with_reducible show Calls Tryd.prog 7 #[.slice b m cb] W1 _); have hcl := clone_any b cb ys W1 (Bs.below HY.out HB1.out (Nat.le_refl _)) HNB.out (by rw [HM.out]; omega); rw [HM.out] at hcl; refine Calls.mono hcl ?_; clear hcl; rintro _ W2 ⟨r2, rfl, hb2, hr2⟩; have HB2 : Hid _ := hb2; have HR2 : Hid _ := hr2; clear hb2 hr2))
  have hlz : (xs ++ 10 :: ys).length = nz := by rw [List.length_append, List.length_cons, HN.out, HM.out]; have := HNZ.out; omega
  have hlu : (xs ++ [10]).length = nl := by rw [List.length_append, HN.out]; exact HNL.out
  obtain ⟨zs, hzs⟩ : ∃ zs, xs ++ 10 :: ys = zs := ⟨_, rfl⟩
  obtain ⟨us, hus⟩ : ∃ us, xs ++ [10] = us := ⟨_, rfl⟩
  rw [hzs] at hlz
  rw [hus] at hlu
  have HZ : Hid (xs ++ 10 :: ys = zs) := hzs
  have HU : Hid (xs ++ [10] = us) := hus
  have HLZ : Hid (zs.length = nz) := hlz
  have HLU : Hid (us.length = nl) := hlu
  have HST : Hid (Cut1 n xs zs us W2.heap.size W2 (.int .i64 0) (.int .i64 0) ((W2.alloc (.cells (madeCells #[.int .u8 0] nz) 5)).alloc (.cells (madeCells #[.int .u8 0] nl) 5))) := Cut1.start n xs zs us nz nl W2 hlz hlu
  have i3 : (n : Int) < (nz : Int) := by have := HNZ.out; omega
  have i4 : (n : Int) < (nl : Int) := by have := HNL.out; omega
  clear hzs hus hlz hlu mk1 mk2 i1 i2
  go_loopw [7, 8] (fun s7 s8 wr => Cut1 n xs zs us W2.heap.size W2 s7 s8 wr) (fun _ s8 _ => n - (intOf s8).toNat)
  case atStart => exact HST.out
  case round =>
    obtain ⟨i, k, hi, hk, hki, rfl, rfl, hp1, hp2, hbel⟩ := hrel
    have HK : Hid (breaks (xs.take i) = k) := hk
    have HP1 : Hid (Part W2.heap.size wr zs i) := hp1
    have HP2 : Hid (Part (W2.heap.size + 1) wr us i) := hp2
    have HBEL : Hid (Below W2.heap.size W2 wr) := hbel
    clear hk hp1 hp2 hbel HST
    by_cases hlt : i < n
    · rcases HR1.out with hnil | ⟨D, rfl, hD1, hD2, hDc⟩
      · have := HN.out; rw [hnil] at this; simp at this; omega
      obtain ⟨z, hz⟩ : ∃ z, xs.getD i 0 = z := ⟨_, rfl⟩
      have hDP : D < W2.heap.size := Nat.lt_of_lt_of_le hD2 HB2.out.size
      have c0 : wr.cell? ⟨D, i, none⟩ = some (.int .u8 z) := by rw [← hz]; exact (HBEL.out.cell (p := ⟨D, i, none⟩) hDP).trans ((HB2.out.cell (p := ⟨D, i, none⟩) hD2).trans (hDc i (by rw [HN.out]; exact hlt)))
      have HBR : Hid (breaks (xs.take (i + 1)) = breaks (xs.take i) + (if z = 10 then 1 else 0)) := breaks_take xs i (by rw [HN.out]; exact hlt) z hz
      obtain ⟨⟨y1, c1⟩, c2, c3, ⟨y2, c4⟩, c5, c6, c7, c8⟩ := cut_round HP1.out HP2.out hDP (by rw [HLZ.out]; omega) (by rw [HLU.out]; omega) (z := z) (by rw [← HZ.out, ← hz]; exact getD_app _ _ _ (by rw [HN.out]; exact hlt)) (by rw [← HU.out, ← hz]; exact getD_app _ _ _ (by rw [HN.out]; exact hlt)) c0
      have HC7 : Hid _ := c7
      have HC8 : Hid _ := c8
      have HB7 : Hid (Below W2.heap.size W2 ((wr.setCell ⟨W2.heap.size, i, none⟩ (.int .u8 z)).setCell ⟨W2.heap.size + 1, i, none⟩ (.int .u8 z))) := (HBEL.out.setCell (p := ⟨W2.heap.size, i, none⟩) (Nat.le_refl _) _).setCell (p := ⟨W2.heap.size + 1, i, none⟩) (Nat.le_succ _) _
      have j1 : (i : Int) < (n : Int) := by omega
      have j2 : (i : Int) < (nz : Int) := by omega
      have j3 : (i : Int) < (nl : Int) := by omega
      clear hDc hD1 hD2 hDP hz c7 c8
      by_cases h10 : z = 10
      · subst h10
        go_wp2
        go_roundw
        case rel => exact ⟨i + 1, k + 1, hlt, by rw [HBR.out, HK.out]; rfl, by omega, by go_num, by go_num, HC7.out, HC8.out, HB7.out⟩
        case measure => simp [intOf]; omega
      · go_wp2
        go_roundw
        case rel => exact ⟨i + 1, k, hlt, by rw [HBR.out, HK.out, if_neg h10]; rfl, by omega, by go_num, by go_num, HC7.out, HC8.out, HB7.out⟩
        case measure => simp [intOf]; omega
    · have hin : n = i := by omega
      subst hin
      obtain ⟨⟨y1, c1⟩, c2, ⟨y2, c3⟩, c4, c5, c6⟩ := cut_lf HP1.out HP2.out (by rw [HLZ.out]; omega) (by rw [HLU.out]; omega) (by rw [← HZ.out]; exact getD_mid _ _ _ HN.out) (by rw [← HU.out]; exact getD_mid _ _ _ HN.out)
      have HKX : Hid (breaks xs = k) := by have := HK.out; rwa [List.take_of_length_le (by rw [HN.out]; exact Nat.le_refl _)] at this
      have HST : Hid (Cut2 n m zs us W2.heap.size W2 (.int .i64 0) ((wr.setCell ⟨W2.heap.size, n, none⟩ (.int .u8 10)).setCell ⟨W2.heap.size + 1, n, none⟩ (.int .u8 10))) := ⟨0, Nat.zero_le _, rfl, c5, c6, (HBEL.out.setCell (p := ⟨W2.heap.size, n, none⟩) (Nat.le_refl _) _).setCell (p := ⟨W2.heap.size + 1, n, none⟩) (Nat.le_succ _) _⟩
      clear c5 c6 HP1 HP2 HBEL HK hlt hi
      go_wp2
      clear c1 c2 c3 c4
      go_loopw [9] (fun s9 wr => Cut2 n m zs us W2.heap.size W2 s9 wr) (fun s9 _ => m - (intOf s9).toNat)
      case atStart => exact HST.out
      case round =>
        obtain ⟨j, hj, rfl, hp1, hp2, hbel⟩ := hrel
        have HP1 : Hid (Part W2.heap.size wr zs (n + 1 + j)) := hp1
        have HP2 : Hid (Part (W2.heap.size + 1) wr us (n + 1)) := hp2
        have HBEL : Hid (Below W2.heap.size W2 wr) := hbel
        clear hp1 hp2 hbel HST
        by_cases hlt : j < m
        · rcases HR2.out with hnil | ⟨D, rfl, hD1, hD2, hDc⟩
          · have := HM.out; rw [hnil] at this; simp at this; omega
          obtain ⟨z, hz⟩ : ∃ z, ys.getD j 0 = z := ⟨_, rfl⟩
          have c0 : wr.cell? ⟨D, j, none⟩ = some (.int .u8 z) := by rw [← hz]; exact (HBEL.out.cell (p := ⟨D, j, none⟩) hD2).trans (hDc j (by rw [HM.out]; exact hlt))
          have hjz : n + 1 + j < zs.length := by rw [HLZ.out]; have := HNZ.out; omega
          obtain ⟨y1, c1⟩ := HP1.out.there (n + 1 + j) hjz
          have c2 := HP1.out.free (n + 1 + j)
          have HC7 : Hid _ := HP1.out.store hjz (z := z) (by rw [← HZ.out, ← hz]; exact getD_end _ _ _ _ HN.out)
          have HC8 : Hid _ := HP2.out.other ⟨W2.heap.size, n + 1 + j, none⟩ (.int .u8 z) (by simp)
          have HB7 : Hid (Below W2.heap.size W2 (wr.setCell ⟨W2.heap.size, n + 1 + j, none⟩ (.int .u8 z))) := HBEL.out.setCell (p := ⟨W2.heap.size, n + 1 + j, none⟩) (Nat.le_refl _) _
          have j1 : (j : Int) < (m : Int) := by omega
          have j2 : (n : Int) + 1 + (j : Int) < (nz : Int) := by have := HNZ.out; omega
          clear hDc hD1 hD2 hz hjz
          go_wp2
          go_roundw
          case rel => exact ⟨j + 1, hlt, by go_num, HC7.out, HC8.out, HB7.out⟩
          case measure => simp [intOf]; omega
        · have hjm : m = j := by omega
          subst hjm
          have HBW : Hid (Below W.heap.size W wr) := below_trans HB1.out (below_trans HB2.out HBEL.out HB2.out.size) HB1.out.size
          have HG5 : Hid (Gl wr ea fa) := HG.out.below HBW.out
          have HBZ : Hid (Bytes zs) := bytes_cut hbx hby HZ.out
          have HBU : Hid (Bytes us) := bytes_cut hbx (fun x hx => by cases hx) HU.out
          go_wp2_with ((go_at_call 12; (with_reducible show Calls Tryd.prog 12 #[.slice (some ⟨W2.heap.size, 0, none⟩) nz nz] wr _); have hr := read_all C HC.out ea fa (some ⟨W2.heap.size, 0, none⟩) zs wr HG5.out HBZ.out (by rw [HLZ.out]; have := HNZ.out; omega) (HP1.out.src HLZ.out (by have := HNZ.out; omega) (Below.refl _ _)); rw [HLZ.out] at hr; refine Calls.mono hr ?_; clear hr; rintro _ V6 ⟨v1, vs1, rfl, ho1, hr1, hb1⟩; obtain ⟨n1, hn1⟩ : ∃ n1, vs1.length = n1 := ⟨_, rfl⟩; rw [hn1] at ho1; obtain ⟨a1, c1, rfl, _⟩ := own_shape ho1; have HN1 : Hid _ := hn1; have HO1 : Hid _ := ho1; have HR6 : Hid _ := hr1; have HB6 : Hid _ := hb1; clear hn1 ho1 hr1 hb1))
          go_wp2_with ((go_at_call 12; (with_reducible show Calls Tryd.prog 12 #[.slice (some ⟨W2.heap.size + 1, 0, none⟩) nl nl] V6 _); have hr := read_all C HC.out ea fa (some ⟨W2.heap.size + 1, 0, none⟩) us V6 (HG5.out.below HB6.out) HBU.out (by rw [HLU.out]; have := HNL.out; omega) (HP2.out.src HLU.out (by have := HNL.out; omega) HB6.out); rw [HLU.out] at hr; refine Calls.mono hr ?_; clear hr; rintro _ V7 ⟨v2, vs2, rfl, ho2, hr2, hb2⟩; obtain ⟨n2, hn2⟩ : ∃ n2, vs2.length = n2 := ⟨_, rfl⟩; rw [hn2] at ho2; obtain ⟨a2, c2, rfl, _⟩ := own_shape ho2; have HN2 : Hid _ := hn2; have HO2 : Hid _ := ho2; have HR7 : Hid _ := hr2; have HB7 : Hid _ := hb2; clear hn2 ho2 hr2 hb2))
          have HB27 : Hid (Below W2.heap.size W2 V7) := below_trans HBEL.out (below_trans HB6.out HB7.out HB6.out.size) HBEL.out.size
          go_wp2_with ((go_at_call 12; (with_reducible show Calls Tryd.prog 12 #[.slice r2 m m] V7 _); have hr := read_all C HC.out ea fa r2 ys V7 ((HG5.out.below HB6.out).below HB7.out) hby (by rw [HM.out]; omega) (clone_src HR2.out HB27.out); rw [HM.out] at hr; refine Calls.mono hr ?_; clear hr; rintro _ V8 ⟨v3, vs3, rfl, ho3, hr3, hb3⟩; obtain ⟨n3, hn3⟩ : ∃ n3, vs3.length = n3 := ⟨_, rfl⟩; rw [hn3] at ho3; obtain ⟨a3, c3, rfl, _⟩ := own_shape ho3; have HN3 : Hid _ := hn3; have HO3 : Hid _ := ho3; have HR8 : Hid _ := hr3; have HB8 : Hid _ := hb3; clear hn3 ho3 hr3 hb3; have HCT : Hid _ := line_counts HZ.out HU.out HKX.out HN1.out HN2.out HN3.out HR6.out.1 HR7.out.1 HR8.out.1 (by rw [HLZ.out]; have := HNZ.out; omega); have e2 : ((k : Int) + 1) = (n2 : Int) := (by have := HCT.out.1; omega); have e1 : (n2 : Int) + (n3 : Int) = (n1 : Int) := (by have := HCT.out.2.1; omega); have e3 : n1 ≤ 1048577 := HCT.out.2.2))
          have HB68 : Hid (Below V6.heap.size V6 V8) := below_trans HB7.out HB8.out HB7.out.size
          have HA1 : Hid _ := AllAt.later HO1.out HR6.out HB68.out
          have HA2 : Hid _ := AllAt.later HO2.out HR7.out HB8.out
          have HLE : Hid (linesOf C zs = linesOf C us ++ linesOf C ys) := by show _ = _; rw [← HZ.out, ← HU.out]; exact linesOf_lf C xs ys
          have HBW8 : Hid (Below W.heap.size W V8) := below_trans HBW.out (below_trans HB6.out HB68.out HB6.out.size) HBW.out.size
          go_loopw [16] (fun s16 wr => ∃ i q : Nat, i ≤ n2 ∧ s16 = .int .i64 i ∧ wr = V8.drewN q) (fun s16 _ => n2 - (intOf s16).toNat)
          case atStart => exact ⟨0, 0, Nat.zero_le _, rfl, rfl⟩
          case round =>
            obtain ⟨i, q, hi, rfl, rfl⟩ := hrel
            by_cases hlt : i < n2
            · obtain ⟨g1, g2, p1, p2, lx, d1, d2, rfl, rfl, k1, k2, hlx, hb1, hb2⟩ := two_lines HA1.out.1 HA2.out.1 HA1.out.2 HA2.out.2 (i := i) (j := i) (by omega) hlt (by
                rw [HLE.out, List.getD_eq_getElem?_getD, List.getElem?_append_left (by rw [← HR7.out.1, HN2.out]; exact hlt), List.getD_eq_getElem?_getD])
              have HQ : Hid (∀ t, Calls Tryd.prog 10 #[.slice p1 lx d1, .slice p2 lx d2] (V8.drewN (q + t)) fun e w' => e = .returned (.bool true) ∧ ∃ u, w' = V8.drewN (q + u)) := by
                intro t
                exact (eq_yes p1 p2 lx d1 d2 _ hlx _ (hb1.drewN (q + t)) (hb2.drewN (q + t)) (by have h1 := line_le C us i; rw [hlx] at h1; have h2 := HC.out; omega)).mono fun _ _ ⟨he, u, hu⟩ => ⟨he, t + u, by rw [hu, World.drewN_drewN, Nat.add_assoc]⟩
              have j1 : (i : Int) < (n2 : Int) := by omega
              have j2 : (i : Int) < (n1 : Int) := by omega
              clear hb1 hb2 hlx
              go_wp2
              go_quiet ((go_at_call 10; exact HQ.out _))
              go_wp2
              go_roundw
              case rel => exact ⟨i + 1, _, hlt, by go_num, rfl⟩
              case measure => simp [intOf]; omega
            · go_wp2
              go_loopw [17] (fun s17 wr => ∃ j q : Nat, j ≤ n3 ∧ s17 = .int .i64 j ∧ wr = V8.drewN q) (fun s17 _ => n3 - (intOf s17).toNat)
              case atStart => exact ⟨0, q, Nat.zero_le _, rfl, rfl⟩
              case round =>
                obtain ⟨j, q, hj, rfl, rfl⟩ := hrel
                by_cases hlt : j < n3
                · obtain ⟨g1, g2, p1, p2, lx, d1, d2, rfl, rfl, k1, k2, hlx, hb1, hb2⟩ := two_lines HA1.out.1 HO3.out HA1.out.2 HR8.out (i := n2 + j) (j := j) (by omega) hlt (by
                    have hl2 : (linesOf C us).length = n2 := by rw [← HR7.out.1, HN2.out]
                    rw [HLE.out, List.getD_eq_getElem?_getD, List.getElem?_append_right (by omega), hl2, Nat.add_sub_cancel_left, List.getD_eq_getElem?_getD])
                  have HQ : Hid (∀ t, Calls Tryd.prog 10 #[.slice p1 lx d1, .slice p2 lx d2] (V8.drewN (q + t)) fun e w' => e = .returned (.bool true) ∧ ∃ u, w' = V8.drewN (q + u)) := by
                    intro t
                    exact (eq_yes p1 p2 lx d1 d2 _ hlx _ (hb1.drewN (q + t)) (hb2.drewN (q + t)) (by have h1 := line_le C ys j; rw [hlx] at h1; have h2 := HC.out; omega)).mono fun _ _ ⟨he, u, hu⟩ => ⟨he, t + u, by rw [hu, World.drewN_drewN, Nat.add_assoc]⟩
                  have j1 : (j : Int) < (n3 : Int) := by omega
                  have j2 : (n2 : Int) + (j : Int) < (n1 : Int) := by omega
                  clear hb1 hb2 hlx
                  go_wp2
                  go_quiet ((go_at_call 10; exact HQ.out _))
                  go_wp2
                  go_roundw
                  case rel => exact ⟨j + 1, _, hlt, by go_num, rfl⟩
                  case measure => simp [intOf]; omega
                · go_wp2
                  go_ret
                  exact ⟨rfl, HBW8.out.os, HBW8.out.tape, HBW8.out.output, HBW8.out.size, HBW8.out.block⟩
end Go.Proofs.Qxb6612819aDoor
