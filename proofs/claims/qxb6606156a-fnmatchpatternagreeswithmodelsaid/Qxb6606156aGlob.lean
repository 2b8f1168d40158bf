/-
  zzGlobModel (function 8): it returns 'Pl.M pattern value'.
-/
import Derived.Test.Qxb6606156aRows
import Derived.Test.Qxb6606156aPlain
import Derived.WalkKit
import Derived.WalkSpells
import Derived.WalkLawsBesides
namespace Go.Proofs.Qxb6606156a
open Go.RowKit

/-- Two rows of n + 1 bools of the call's own, and the old memory as it was. -/
structure TwoRows (B n : Nat) (w wr : World) (bp bc : Nat) (f g : Nat → Bool) : Prop where
  hp : B ≤ bp
  hc : B ≤ bc
  ne : bp ≠ bc
  cp : ∀ j, j ≤ n → wr.cell? ⟨bp, j, none⟩ = some (.bool (f j))
  cc : ∀ j, j ≤ n → wr.cell? ⟨bc, j, none⟩ = some (.bool (g j))
  fp : ∀ o, wr.frozen? ⟨bp, o, none⟩ = false
  fc : ∀ o, wr.frozen? ⟨bc, o, none⟩ = false
  below : Below B w wr

theorem TwoRows.swap {B n : Nat} {w wr : World} {bp bc : Nat} {f g : Nat → Bool} (h : TwoRows B n w wr bp bc f g) : TwoRows B n w wr bc bp g f :=
  ⟨h.hc, h.hp, fun e => h.ne e.symm, h.cc, h.cp, h.fc, h.fp, h.below⟩

theorem TwoRows.store {B n : Nat} {w wr : World} {bp bc : Nat} {f g : Nat → Bool} (h : TwoRows B n w wr bp bc f g) (j : Nat) (hj : j ≤ n) (x : Bool) :
    TwoRows B n w (wr.setCell ⟨bc, j, none⟩ (.bool x)) bp bc f (fun k => if k = j then x else g k) := by
  refine ⟨h.hp, h.hc, h.ne, fun k hk => ?_, fun k hk => ?_, fun o => ?_, fun o => ?_, h.below.setCell h.hc _⟩
  · rw [World.cell?_setCell_other _ _ _ _ (fun e => h.ne (by injection e with e1; exact e1.symm))]
    exact h.cp k hk
  · by_cases e : k = j
    · subst e
      rw [World.cell?_setCell_same _ _ _ (h.cc k hk), if_pos rfl]
    · rw [World.cell?_setCell_other _ _ _ _ (fun e2 => e (by injection e2 with e1 e3; exact e3.symm)), if_neg e]
      exact h.cc k hk
  · rw [World.frozen?_setCell]; exact h.fp o
  · rw [World.frozen?_setCell]; exact h.fc o

theorem TwoRows.congr {B n : Nat} {w wr : World} {bp bc : Nat} {f f' g g' : Nat → Bool} (h : TwoRows B n w wr bp bc f g) (hf : ∀ j, j ≤ n → f j = f' j) (hg : ∀ j, j ≤ n → g j = g' j) : TwoRows B n w wr bp bc f' g' :=
  ⟨h.hp, h.hc, h.ne, fun j hj => by rw [h.cp j hj, hf j hj], fun j hj => by rw [h.cc j hj, hg j hj], h.fp, h.fc, h.below⟩

theorem Try.info4 : (Try.prog.info? 4).map (fun i => (i.zero, i.size, i.bytes)) = some (some (.bool false), 1, 1) := by kernel_rfl

theorem tworows_made {w w0 w1 : World} {n : Nat} (h0 : w0.ownsRow w.heap.size 4 1 (.slice (some ⟨w.heap.size, 0, none⟩) (n + 1) (n + 1)) (n + 1) (madeCells #[Value.bool false] (n + 1)).toList)
    (g0 : w.grownBy w0 none) (h1 : w1.ownsRow w.heap.size 4 1 (.slice (some ⟨w0.heap.size, 0, none⟩) (n + 1) (n + 1)) (n + 1) (madeCells #[Value.bool false] (n + 1)).toList)
    (g1 : w0.grownBy w1 none) (hz : w.heap.size < w0.heap.size) : TwoRows w.heap.size n w w1 w.heap.size w0.heap.size (fun _ => false) (fun _ => false) := by
  have h0' := h0.kept g1 (.inr (by simp [Value.ownBlock]))
  rw [toList_madeCells_one] at h0' h1
  refine ⟨Nat.le_refl _, by omega, by omega, fun j hj => ?_, fun j hj => ?_, fun o => h0'.frozenAt o, fun o => h1.frozenAt o, ?_⟩
  · rw [h0'.cellAt j (by omega)]; simp [List.getElem?_replicate]; omega
  · rw [h1.cellAt j (by omega)]; simp [List.getElem?_replicate]; omega
  · exact ((Below.refl _ _).grown g0 (Nat.le_refl _) (fun k h => by cases h)).grown g1 (by omega) (fun k h => by cases h)

/-- The table: do the first i bytes of the pattern match the first j of the value? -/
def F (p v : ByteArray) (i j : Nat) : Bool := Pl.M (p.data.toList.take i) (v.data.toList.take j)

theorem take_snoc (s : ByteArray) (k : Nat) (h : k < s.size) : s.data.toList.take (k + 1) = s.data.toList.take k ++ [s[k]] := by
  rw [List.take_succ_eq_append_getElem (by simpa using h)]; rfl

theorem byte_eq {a b : UInt8} (h : ((a.toNat : Int) == (b.toNat : Int)) = true) : a = b := by
  have h1 : (a.toNat : Int) = (b.toNat : Int) := by simpa using h
  exact UInt8.toNat_inj.1 (by omega)
theorem byte_ne {a b : UInt8} (h : ((a.toNat : Int) == (b.toNat : Int)) = false) : a ≠ b := by
  intro e; subst e; simp at h

theorem F_zero (p v : ByteArray) (j : Nat) : F p v 0 j = (v.data.toList.take j).isEmpty := by
  unfold F; rw [List.take_zero, Pl.M]
theorem F_star_zero (p v : ByteArray) (i : Nat) (hi : i < p.size) (hc : ((p[i].toNat : Int) == 42) = true) : F p v (i + 1) 0 = F p v i 0 := by
  have : p[i] = 42 := byte_eq (b := 42) hc
  unfold F; rw [take_snoc p i hi, this]; exact Pl.star_zero _ _
theorem F_star_succ (p v : ByteArray) (i j : Nat) (hi : i < p.size) (hj : j < v.size) (hc : ((p[i].toNat : Int) == 42) = true) : F p v (i + 1) (j + 1) = (F p v i (j + 1) || F p v (i + 1) j) := by
  have : p[i] = 42 := byte_eq (b := 42) hc
  unfold F; rw [take_snoc p i hi, this]; exact Pl.star_succ _ _ j (by simpa using hj)
theorem F_chr_zero (p v : ByteArray) (i : Nat) (hi : i < p.size) (hc : ((p[i].toNat : Int) == 42) = false) : F p v (i + 1) 0 = false := by
  have : p[i] ≠ 42 := byte_ne (b := 42) hc
  unfold F; rw [take_snoc p i hi]; exact Pl.chr_zero this _ _
theorem F_chr_succ (p v : ByteArray) (i j : Nat) (hi : i < p.size) (hj : j < v.size) (hc : ((p[i].toNat : Int) == 42) = false) : F p v (i + 1) (j + 1) = (F p v i j && ((v[j].toNat : Int) == (p[i].toNat : Int))) := by
  have : p[i] ≠ 42 := byte_ne (b := 42) hc
  unfold F
  rw [take_snoc p i hi, Pl.chr_succ this _ _ j (by simpa using hj)]
  congr 1
  have e : v.data.toList[j]'(by simpa using hj) = v[j] := rfl
  rw [e, Bool.eq_iff_iff]
  constructor
  · intro h; rw [beq_iff_eq.1 h]; simp
  · intro h; rw [byte_eq h]; simp

set_option maxHeartbeats 1000000 in
theorem glob_any (p v : ByteArray) (w : World) (hp : p.size ≤ 4096) (hv : v.size ≤ 4096) :
    Calls Try.prog 8 #[.string p, .string v] w fun e w' => e = .returned (.bool (Pl.M p.data.toList v.data.toList)) ∧ Below w.heap.size w w' := by
  obtain ⟨i0, hi, hz0, hz1, hz2⟩ := info_parts Try.info4
  go_enter Try.func8, Try.ntmps8
  go_wp2_with (at_make; refine wpList_make_full _ rfl _ _ 29 rfl w.heap.size 4 i0 (.bool false) 1 Try.underlying29 hi hz0 hz1 _ _ _ _ (v.size + 1) rfl rfl (by omega) (by omega) ?b2 ?b3 (Nat.le_refl _) ?_)
  case b2 => rw [hz2]; omega
  case b3 => unfold maxLen; omega
  intro w0 hown0 hgrow0
  have hz : w.heap.size < w0.heap.size := (hown0.lt _ rfl).2
  go_wp2_with (at_make; refine wpList_make_full _ rfl _ _ 29 rfl w.heap.size 4 i0 (.bool false) 1 Try.underlying29 hi hz0 hz1 _ _ _ _ (v.size + 1) rfl rfl (by omega) (by omega) ?b2' ?b3' (by omega) ?_)
  case b2' => rw [hz2]; omega
  case b3' => unfold maxLen; omega
  intro w1 hown1 hgrow1
  have h2 := tworows_made hown0 hgrow0 hown1 hgrow1 hz
  have hc0 := h2.cp 0 (Nat.zero_le _)
  have hf0 := h2.fp 0
  have h3 := h2.swap.store (bp := w0.heap.size) 0 (Nat.zero_le _) true
  have H3 : Hid (TwoRows w.heap.size v.size w _ w.heap.size w0.heap.size _ _) := h3.swap
  clear hown0 hgrow0 hown1 hgrow1 h2 h3
  go_wp2
  go_loopw [6, 7, 8] (fun sp sc si wr => ∃ (i bp bc : Nat) (f g : Nat → Bool), i ≤ p.size ∧ si = .int .i64 i ∧ sp = .slice (some ⟨bp, 0, none⟩) (v.size + 1) (v.size + 1) ∧ sc = .slice (some ⟨bc, 0, none⟩) (v.size + 1) (v.size + 1) ∧
      (∀ j, j ≤ v.size → f j = F p v i j) ∧ TwoRows w.heap.size v.size w wr bp bc f g) (fun _ _ si _ => p.size - (intOf si).toNat)
  case atStart =>
    refine ⟨0, w.heap.size, w0.heap.size, _, _, Nat.zero_le _, rfl, rfl, rfl, ?_, H3.out⟩
    intro j hj
    rw [F_zero]
    by_cases e : j = 0
    · subst e; simp
    · show (if j = 0 then true else false) = _
      rw [if_neg e]
      symm
      rw [Bool.eq_false_iff]
      intro h
      have h2 := congrArg List.length (List.isEmpty_iff.1 h)
      rw [List.length_take, List.length_nil, Array.length_toList] at h2
      have h3 : v.data.size = v.size := rfl
      omega
  case round =>
    obtain ⟨i, bp, bc, f, g, hil, rfl, rfl, rfl, hF, hT⟩ := hrel
    obtain ⟨wo, rfl⟩ : ∃ wo : World, wo = wr := ⟨_, rfl⟩
    have HF : Hid (∀ j, j ≤ v.size → f j = F p v i j) := hF
    have hb := hT.cp 0 (Nat.zero_le _)
    have hb2 := hT.cc 0 (Nat.zero_le _)
    have hb3 := hT.fc 0
    clear hF hc0 hf0 H3
    by_cases hlt : i < p.size
    · by_cases hc : ((p[i].toNat : Int) == 42) = true
      · have HF0 : Hid (F p v (i + 1) 0 = F p v i 0) := F_star_zero p v i hlt hc
        have hT2 := hT.store 0 (Nat.zero_le _) (f 0)
        have HT2 : Hid (TwoRows w.heap.size v.size w _ bp bc f _) := hT2
        clear hT2 hT
        go_wp2
        go_loopw [10] (fun sj wi => ∃ (j : Nat) (g : Nat → Bool), j ≤ v.size ∧ sj = .int .i64 ((j : Int) + 1) ∧ (∀ k, k ≤ j → g k = F p v (i + 1) k) ∧ TwoRows w.heap.size v.size w wi bp bc f g) (fun sj _ => v.size + 1 - (intOf sj).toNat)
        case atStart =>
          refine ⟨0, _, Nat.zero_le _, rfl, ?_, HT2.out⟩
          intro k hk
          obtain rfl : k = 0 := by omega
          show (if (0 : Nat) = 0 then f 0 else g 0) = _
          rw [if_pos rfl, HF0.out, HF.out 0 (Nat.zero_le _)]
        case round =>
          obtain ⟨j, g', hj, rfl, hG, hT⟩ := hrel
          have HG : Hid (∀ k, k ≤ j → g' k = F p v (i + 1) k) := hG
          clear hG HT2 hb hb2 hb3
          by_cases hjl : j < v.size
          · have c1 := hT.cp (j + 1) (by omega)
            have c2 := hT.cc j (by omega)
            have c3 := hT.cc (j + 1) (by omega)
            have c4 := hT.fc (j + 1)
            have HS : Hid (F p v (i + 1) (j + 1) = (F p v i (j + 1) || F p v (i + 1) j)) := F_star_succ p v i j hlt hjl hc
            have key : ∀ x, x = (f (j + 1) || g' j) → ∀ k, k ≤ j + 1 → (if k = j + 1 then x else g' k) = F p v (i + 1) k := by
              intro x hx k hk
              by_cases e : k = j + 1
              · rw [if_pos e, e, HS.out, hx, HF.out _ (by omega), HG.out j (by omega)]
              · rw [if_neg e]; exact HG.out k (by omega)
            have HK : Hid (∀ x, x = (f (j + 1) || g' j) → ∀ k, k ≤ j + 1 → (if k = j + 1 then x else g' k) = F p v (i + 1) k) := key
            have HT := fun x => hT.store (j + 1) (by omega) x
            have HTT : Hid (∀ x, TwoRows w.heap.size v.size w (wr.setCell ⟨bc, j + 1, none⟩ (.bool x)) bp bc f _) := HT
            clear HT hT key HS HG
            cases hfj : f (j + 1)
            · rw [hfj] at c1
              have HX : Hid (g' j = (f (j + 1) || g' j)) := by show _ = _; rw [hfj]; simp
              clear hfj
              go_wp2
              go_roundw
              case rel => exact ⟨j + 1, _, by omega, by go_num, HK.out _ HX.out, HTT.out _⟩
              case measure => simp [intOf]; omega
            · rw [hfj] at c1
              have HX : Hid (true = (f (j + 1) || g' j)) := by show _ = _; rw [hfj]; simp
              clear hfj
              go_wp2
              go_roundw
              case rel => exact ⟨j + 1, _, by omega, by go_num, HK.out _ HX.out, HTT.out _⟩
              case measure => simp [intOf]; omega
          · obtain rfl : j = v.size := by omega
            go_wp2
            go_roundw
            case rel => exact ⟨i + 1, bc, bp, g', f, by omega, by go_num, rfl, rfl, HG.out, hT.swap⟩
            case measure => simp [intOf]; omega
      · have hc' : ((p[i].toNat : Int) == 42) = false := by simpa using hc
        have HF0 : Hid (F p v (i + 1) 0 = false) := F_chr_zero p v i hlt hc'
        have hT2 := hT.store 0 (Nat.zero_le _) false
        have HT2 : Hid (TwoRows w.heap.size v.size w _ bp bc f _) := hT2
        clear hT2 hT hc
        go_wp2
        go_loopw [11] (fun sj wi => ∃ (j : Nat) (g : Nat → Bool), j ≤ v.size ∧ sj = .int .i64 ((j : Int) + 1) ∧ (∀ k, k ≤ j → g k = F p v (i + 1) k) ∧ TwoRows w.heap.size v.size w wi bp bc f g) (fun sj _ => v.size + 1 - (intOf sj).toNat)
        case atStart =>
          refine ⟨0, _, Nat.zero_le _, rfl, ?_, HT2.out⟩
          intro k hk
          obtain rfl : k = 0 := by omega
          show (if (0 : Nat) = 0 then false else g 0) = _
          rw [if_pos rfl, HF0.out]
        case round =>
          obtain ⟨j, g', hj, rfl, hG, hT⟩ := hrel
          have HG : Hid (∀ k, k ≤ j → g' k = F p v (i + 1) k) := hG
          clear hG HT2 hb hb2 hb3
          by_cases hjl : j < v.size
          · have c1 := hT.cp j (by omega)
            have c3 := hT.cc (j + 1) (by omega)
            have c4 := hT.fc (j + 1)
            have HS : Hid (F p v (i + 1) (j + 1) = (F p v i j && ((v[j].toNat : Int) == (p[i].toNat : Int)))) := F_chr_succ p v i j hlt hjl hc'
            have key : ∀ x, x = (f j && ((v[j].toNat : Int) == (p[i].toNat : Int))) → ∀ k, k ≤ j + 1 → (if k = j + 1 then x else g' k) = F p v (i + 1) k := by
              intro x hx k hk
              by_cases e : k = j + 1
              · rw [if_pos e, e, HS.out, hx, HF.out _ (by omega)]
              · rw [if_neg e]; exact HG.out k (by omega)
            have HK : Hid (∀ x, x = (f j && ((v[j].toNat : Int) == (p[i].toNat : Int))) → ∀ k, k ≤ j + 1 → (if k = j + 1 then x else g' k) = F p v (i + 1) k) := key
            have HT := fun x => hT.store (j + 1) (by omega) x
            have HTT : Hid (∀ x, TwoRows w.heap.size v.size w (wr.setCell ⟨bc, j + 1, none⟩ (.bool x)) bp bc f _) := HT
            clear HT hT key HS HG
            cases hfj : f j
            · rw [hfj] at c1
              have HX : Hid (false = (f j && ((v[j].toNat : Int) == (p[i].toNat : Int)))) := by show _ = _; rw [hfj]; simp
              clear hfj
              go_wp2
              go_roundw
              case rel => exact ⟨j + 1, _, by omega, by go_num, HK.out _ HX.out, HTT.out _⟩
              case measure => simp [intOf]; omega
            · rw [hfj] at c1
              have HX : Hid (((v[j].toNat : Int) == (p[i].toNat : Int)) = (f j && ((v[j].toNat : Int) == (p[i].toNat : Int)))) := by show _ = _; rw [hfj]; simp
              clear hfj
              go_wp2
              go_roundw
              case rel => exact ⟨j + 1, _, by omega, by go_num, HK.out _ HX.out, HTT.out _⟩
              case measure => simp [intOf]; omega
          · obtain rfl : j = v.size := by omega
            go_wp2
            go_roundw
            case rel => exact ⟨i + 1, bc, bp, g', f, by omega, by go_num, rfl, rfl, HG.out, hT.swap⟩
            case measure => simp [intOf]; omega
    · obtain rfl : i = p.size := by omega
      have hcn := hT.cp v.size (Nat.le_refl _)
      have HE : Hid (f v.size = Pl.M p.data.toList v.data.toList) := by
        show _ = _
        rw [HF.out _ (Nat.le_refl _), F, List.take_of_length_le (by simp), List.take_of_length_le (by simp)]
      have HB := hT.below
      clear hT HF hb hb2 hb3
      go_wp2
      go_ret
      exact ⟨congrArg (fun b => Ending.returned (.bool b)) HE.out, HB⟩
end Go.Proofs.Qxb6606156a
