/-
  AppendTerm (20) at a literal (and at any kind that is neither an IRI nor a blank node).
-/
import Derived.Test.Qxb6609053aTerm
import Derived.Test.Qxb6609053aShelf
import Derived.Laws.BitsAllLaws
namespace Go.Proofs.Qxb6609053a
open Go.RowKit

theorem indexByte_lt : ∀ (l : List UInt8) (c : UInt8), Lib.indexByte l c < l.length
  | [], _ => by simp [Lib.indexByte]
  | b :: l, c => by
    have ih := indexByte_lt l c
    unfold Lib.indexByte
    rw [List.length_cons]
    split
    · omega
    · split <;> omega

/-- strings.IndexByte at the seven bytes that have an escape of their own. -/
theorem esc_any (c : Int) (w : World) :
    Calls Try.prog 25 #[.string ⟨#[8, 9, 10, 12, 13, 34, 92]⟩, .int .u8 c] w fun e w' => (∃ z : Int, e = .returned (.int .i64 z) ∧ -1 ≤ z ∧ z < 7) ∧ w' = w := by
  refine (Try.strings_IndexByte _ c w).mono ?_
  rintro e w' ⟨rfl, rfl⟩
  exact ⟨⟨_, rfl, Lib.indexByte_ge _ _, indexByte_lt _ _⟩, rfl⟩

theorem run_row_block (B : Nat) (W0 W : World) (bs : List Value) (v : Value) (n : Nat) (ty : TypeId) (cs : List Value) (m : Nat) (hm : cs.length = m) (h : Row B W0 W bs v n) (h1c : ∀ u ∈ cs, u.oneCell' = true) (hn : n + m ≤ 67108864) :
    ∃ v' w', (Builtin.append_ #[24, 24] ty #[v, .slice (some ⟨W.heap.size, 0, none⟩) m m]).run Try.prog (W.alloc (.cells cs.toArray 5)) = .ok v' w' ∧ Out2 B W0 (W.alloc (.cells cs.toArray 5)) bs v (n + m) v' w' := by
  refine run_row_bytes B W0 _ bs v n ty _ m m cs (h.alloc _) hm (fun j u hj => ?_) h1c hn
  rw [WideShapes.add_plain, Nat.zero_add, World.cell?_alloc_at _ 5 _ j rfl, List.getElem?_toArray]
  exact hj
theorem run_row_block_drew (B : Nat) (W0 W : World) (bs : List Value) (v : Value) (n : Nat) (ty : TypeId) (cs : List Value) (m : Nat) (hm : cs.length = m) (h : Row B W0 W bs v n) (h1c : ∀ u ∈ cs, u.oneCell' = true) (hn : n + m ≤ 67108864) :
    ∃ v' w', (Builtin.append_ #[24, 24] ty #[v, .slice (some ⟨W.heap.size, 0, none⟩) m m]).run Try.prog (W.alloc (.cells cs.toArray 5)).drew = .ok v' w' ∧ Out2 B W0 (W.alloc (.cells cs.toArray 5)).drew bs v (n + m) v' w' := by
  refine run_row_bytes B W0 _ bs v n ty _ m m cs (h.alloc _).drew hm (fun j u hj => ?_) h1c hn
  show (W.alloc (.cells cs.toArray 5)).cell? _ = _
  rw [WideShapes.add_plain, Nat.zero_add, World.cell?_alloc_at _ 5 _ j rfl, List.getElem?_toArray]
  exact hj

theorem and15_lo (c : UInt8) : (0 : Int) ≤ bits .and .u8 (c.toNat : Int) 15 := by
  have h := u8_and_nat c.toNat 15 c.toNat_lt (by decide)
  rw [show ((15 : Nat) : Int) = 15 from rfl] at h
  rw [h]; omega
theorem and15_hi (c : UInt8) : bits .and .u8 (c.toNat : Int) 15 < 16 := by
  have h := u8_and_nat c.toNat 15 c.toNat_lt (by decide)
  rw [show ((15 : Nat) : Int) = 15 from rfl] at h
  rw [h]
  have := @Nat.and_le_right c.toNat 15
  omega

theorem sz3 : (⟨#[94, 94, 60]⟩ : ByteArray).size = 3 := rfl
theorem src_two {B : Nat} {W0 w3 w4 : World} {bs : List Value} {v : Value} {n gs : Nat} (h : Row B W0 w3 bs v n) (hn : 2 ≤ n) (hs : Src w3 gs) (hg : w3.grownBy w4 v.ownBlock) : Src w4 gs := hs.kept hg (h.ne_src hn hs)

set_option maxHeartbeats 4000000 in
theorem term_lit (k : Int) (hk1 : (k == 1) = false) (hk2 : (k == 2) = false) (ao : Option Addr) (bs : List Value) (val dt lang : ByteArray) (w : World) (ht : Tight w ao bs) (hn : bs.length ≤ 262144) (hv : val.size ≤ 262144) (hd : dt.size ≤ 262144) (hl : lang.size ≤ 262144) :
    Calls Try.prog 20 #[.slice ao bs.length bs.length, .agg #[.int .u8 k, .string val, .string dt, .string lang]] w fun e w' => Longer w bs (bs.length + val.size) e w' := by
  go_enter Try.func20, Try.ntmps20
  go_wp2_with (at_builtin; refine list_append rfl (.tmp 28) (.tmp 29) 24 24 rfl (v1 := .slice ao bs.length bs.length) (v2 := .slice (some ⟨_, 0, none⟩) 1 1) rfl rfl (t1_byte w (.cells #[.int .u8 k, .string val, .string dt, .string lang] 32) _ ao bs _ _ ht hn (by refine (Below.refl _ _).alloc ?_ _; simp) (by refine Src.new _ _ ?_; simp)) ?_; intro v0 w0 h0)
  go_loopw [0, 5, 6] (fun s0 s5 s6 wr => ∃ (n st i : Nat), s5 = .int .i64 st ∧ s6 = .int .i64 i ∧ st ≤ i ∧ i ≤ val.size ∧ Row (w.heap.size + 1) (w.alloc (.cells #[.int .u8 k, .string val, .string dt, .string lang] 32)) wr bs s0 n ∧ bs.length + 1 + st ≤ n ∧ n ≤ bs.length + 1 + 6 * st)
    (fun _ _ s6 _ => val.size - (intOf s6).toNat)
  case atStart => exact ⟨bs.length + 1, 0, 0, rfl, rfl, Nat.le_refl _, Nat.zero_le _, h0.row, Nat.le_refl _, Nat.le_refl _⟩
  case round =>
    clear h0
    obtain ⟨n, st, i, rfl, rfl, hst, hi, hrow, hn1, hn2⟩ := hrel
    have hc1 := hrow.field 1
    have hz1 := hrow.size1
    by_cases hlt : i < val.size
    · by_cases hesc : (32 : Int) ≤ (val[i].toNat : Int) ∧ ((val[i].toNat : Int) != 127) = true ∧ ((val[i].toNat : Int) != 34) = true ∧ ((val[i].toNat : Int) != 92) = true
      · obtain ⟨e1, e2, e3, e4⟩ := hesc
        go_wp2
        go_roundw
        case rel => exact ⟨n, st, i + 1, rfl, by go_num, by omega, by omega, hrow, hn1, hn2⟩
        case measure => simp [intOf]; omega
      · have hcase : ¬ (32 : Int) ≤ (val[i].toNat : Int) ∨ ((32 : Int) ≤ (val[i].toNat : Int) ∧ ((val[i].toNat : Int) != 127) = false) ∨ ((32 : Int) ≤ (val[i].toNat : Int) ∧ ((val[i].toNat : Int) != 127) = true ∧ ((val[i].toNat : Int) != 34) = false) ∨
            ((32 : Int) ≤ (val[i].toNat : Int) ∧ ((val[i].toNat : Int) != 127) = true ∧ ((val[i].toNat : Int) != 34) = true ∧ ((val[i].toNat : Int) != 92) = false) := by
          by_cases e1 : (32 : Int) ≤ (val[i].toNat : Int)
          · cases e2 : ((val[i].toNat : Int) != 127)
            · exact .inr (.inl ⟨e1, rfl⟩)
            · cases e3 : ((val[i].toNat : Int) != 34)
              · exact .inr (.inr (.inl ⟨e1, rfl, rfl⟩))
              · cases e4 : ((val[i].toNat : Int) != 92)
                · exact .inr (.inr (.inr ⟨e1, rfl, rfl, rfl⟩))
                · exact absurd ⟨e1, e2, e3, e4⟩ hesc
          · exact .inl e1
        clear hesc
        have hsx : (val.extract st i).size = i - st := by rw [ByteArray.size_extract]; omega
        have HSX : Hid ((val.extract st i).size = i - st) := hsx
        clear hsx
        rcases hcase with e1 | ⟨e1, e2⟩ | ⟨e1, e2, e3⟩ | ⟨e1, e2, e3, e4⟩
        · go_wp2_with (first
            | (at_builtin; refine list_append rfl (.tmp 56) (.tmp 61) 24 9 rfl (v2 := .string (val.extract st i)) rfl rfl (run_row_str (w.heap.size + 1) (w.alloc (.cells #[.int .u8 k, .string val, .string dt, .string lang] 32)) _ bs _ n _ (val.extract st i) hrow (by rw [HSX.out]; omega)) ?_; intro v1 w1 h1; have hc1' := h1.row.field 1; have hz1' := h1.row.size1)
            | (go_at_call 25; refine (esc_any _ _).mono ?_; rintro e w' ⟨⟨z, rfl, hz0, hz7⟩, rfl⟩)
            | (at_builtin; refine list_append rfl (.tmp 69) (.tmp 72) 24 24 rfl (v2 := .slice (some ⟨_, 0, none⟩) 2 2) rfl rfl (run_row_block (w.heap.size + 1) (w.alloc (.cells #[.int .u8 k, .string val, .string dt, .string lang] 32)) _ bs v1 (n + (val.extract st i).size) _ [_, _] 2 rfl h1.row (by intro u hu; simp at hu; rcases hu with rfl | rfl <;> rfl) (by rw [HSX.out]; omega)) ?_; intro v2 w2 h2))
          · go_roundw
            case rel => exact ⟨_, i + 1, i + 1, by go_num, by go_num, Nat.le_refl _, by omega, h2.row, by rw [HSX.out]; omega, by rw [HSX.out]; omega⟩
            case measure => simp [intOf]; omega
          · have q0 := UInt8.toNat_lt val[i]
            have q1 : (0 : Int) ≤ (val[i].toNat : Int) / 16 := by omega
            have q2 : (val[i].toNat : Int) / 16 < 16 := by omega
            have q3 := and15_lo val[i]
            have q4 := and15_hi val[i]
            clear q0
            go_region_law (refine step_append rfl (.tmp 74) (.tmp 81) 24 24 rfl (v2 := .slice (some ⟨_, 0, none⟩) 6 6) rfl rfl (run_row_block_drew (w.heap.size + 1) (w.alloc (.cells #[.int .u8 k, .string val, .string dt, .string lang] 32)) _ bs v1 (n + (val.extract st i).size) _ [_, _, _, _, _, _] 6 rfl h1.row (by intro u hu; simp at hu; rcases hu with rfl | rfl | rfl | rfl | rfl | rfl <;> rfl) (by rw [HSX.out]; omega)) ?_; intro v2 w2 h2)
            all_goals
              go_wp2
              go_roundw
              case rel => exact ⟨_, i + 1, i + 1, by go_num, by go_num, Nat.le_refl _, by omega, h2.row, by rw [HSX.out]; omega, by rw [HSX.out]; omega⟩
              case measure => simp [intOf]; omega
        · go_wp2_with (first
            | (at_builtin; refine list_append rfl (.tmp 56) (.tmp 61) 24 9 rfl (v2 := .string (val.extract st i)) rfl rfl (run_row_str (w.heap.size + 1) (w.alloc (.cells #[.int .u8 k, .string val, .string dt, .string lang] 32)) _ bs _ n _ (val.extract st i) hrow (by rw [HSX.out]; omega)) ?_; intro v1 w1 h1; have hc1' := h1.row.field 1; have hz1' := h1.row.size1)
            | (go_at_call 25; refine (esc_any _ _).mono ?_; rintro e w' ⟨⟨z, rfl, hz0, hz7⟩, rfl⟩)
            | (at_builtin; refine list_append rfl (.tmp 69) (.tmp 72) 24 24 rfl (v2 := .slice (some ⟨_, 0, none⟩) 2 2) rfl rfl (run_row_block (w.heap.size + 1) (w.alloc (.cells #[.int .u8 k, .string val, .string dt, .string lang] 32)) _ bs v1 (n + (val.extract st i).size) _ [_, _] 2 rfl h1.row (by intro u hu; simp at hu; rcases hu with rfl | rfl <;> rfl) (by rw [HSX.out]; omega)) ?_; intro v2 w2 h2))
          · go_roundw
            case rel => exact ⟨_, i + 1, i + 1, by go_num, by go_num, Nat.le_refl _, by omega, h2.row, by rw [HSX.out]; omega, by rw [HSX.out]; omega⟩
            case measure => simp [intOf]; omega
          · have q0 := UInt8.toNat_lt val[i]
            have q1 : (0 : Int) ≤ (val[i].toNat : Int) / 16 := by omega
            have q2 : (val[i].toNat : Int) / 16 < 16 := by omega
            have q3 := and15_lo val[i]
            have q4 := and15_hi val[i]
            clear q0
            go_region_law (refine step_append rfl (.tmp 74) (.tmp 81) 24 24 rfl (v2 := .slice (some ⟨_, 0, none⟩) 6 6) rfl rfl (run_row_block_drew (w.heap.size + 1) (w.alloc (.cells #[.int .u8 k, .string val, .string dt, .string lang] 32)) _ bs v1 (n + (val.extract st i).size) _ [_, _, _, _, _, _] 6 rfl h1.row (by intro u hu; simp at hu; rcases hu with rfl | rfl | rfl | rfl | rfl | rfl <;> rfl) (by rw [HSX.out]; omega)) ?_; intro v2 w2 h2)
            all_goals
              go_wp2
              go_roundw
              case rel => exact ⟨_, i + 1, i + 1, by go_num, by go_num, Nat.le_refl _, by omega, h2.row, by rw [HSX.out]; omega, by rw [HSX.out]; omega⟩
              case measure => simp [intOf]; omega
        · go_wp2_with (first
            | (at_builtin; refine list_append rfl (.tmp 56) (.tmp 61) 24 9 rfl (v2 := .string (val.extract st i)) rfl rfl (run_row_str (w.heap.size + 1) (w.alloc (.cells #[.int .u8 k, .string val, .string dt, .string lang] 32)) _ bs _ n _ (val.extract st i) hrow (by rw [HSX.out]; omega)) ?_; intro v1 w1 h1; have hc1' := h1.row.field 1; have hz1' := h1.row.size1)
            | (go_at_call 25; refine (esc_any _ _).mono ?_; rintro e w' ⟨⟨z, rfl, hz0, hz7⟩, rfl⟩)
            | (at_builtin; refine list_append rfl (.tmp 69) (.tmp 72) 24 24 rfl (v2 := .slice (some ⟨_, 0, none⟩) 2 2) rfl rfl (run_row_block (w.heap.size + 1) (w.alloc (.cells #[.int .u8 k, .string val, .string dt, .string lang] 32)) _ bs v1 (n + (val.extract st i).size) _ [_, _] 2 rfl h1.row (by intro u hu; simp at hu; rcases hu with rfl | rfl <;> rfl) (by rw [HSX.out]; omega)) ?_; intro v2 w2 h2))
          · go_roundw
            case rel => exact ⟨_, i + 1, i + 1, by go_num, by go_num, Nat.le_refl _, by omega, h2.row, by rw [HSX.out]; omega, by rw [HSX.out]; omega⟩
            case measure => simp [intOf]; omega
          · have q0 := UInt8.toNat_lt val[i]
            have q1 : (0 : Int) ≤ (val[i].toNat : Int) / 16 := by omega
            have q2 : (val[i].toNat : Int) / 16 < 16 := by omega
            have q3 := and15_lo val[i]
            have q4 := and15_hi val[i]
            clear q0
            go_region_law (refine step_append rfl (.tmp 74) (.tmp 81) 24 24 rfl (v2 := .slice (some ⟨_, 0, none⟩) 6 6) rfl rfl (run_row_block_drew (w.heap.size + 1) (w.alloc (.cells #[.int .u8 k, .string val, .string dt, .string lang] 32)) _ bs v1 (n + (val.extract st i).size) _ [_, _, _, _, _, _] 6 rfl h1.row (by intro u hu; simp at hu; rcases hu with rfl | rfl | rfl | rfl | rfl | rfl <;> rfl) (by rw [HSX.out]; omega)) ?_; intro v2 w2 h2)
            all_goals
              go_wp2
              go_roundw
              case rel => exact ⟨_, i + 1, i + 1, by go_num, by go_num, Nat.le_refl _, by omega, h2.row, by rw [HSX.out]; omega, by rw [HSX.out]; omega⟩
              case measure => simp [intOf]; omega
        · go_wp2_with (first
            | (at_builtin; refine list_append rfl (.tmp 56) (.tmp 61) 24 9 rfl (v2 := .string (val.extract st i)) rfl rfl (run_row_str (w.heap.size + 1) (w.alloc (.cells #[.int .u8 k, .string val, .string dt, .string lang] 32)) _ bs _ n _ (val.extract st i) hrow (by rw [HSX.out]; omega)) ?_; intro v1 w1 h1; have hc1' := h1.row.field 1; have hz1' := h1.row.size1)
            | (go_at_call 25; refine (esc_any _ _).mono ?_; rintro e w' ⟨⟨z, rfl, hz0, hz7⟩, rfl⟩)
            | (at_builtin; refine list_append rfl (.tmp 69) (.tmp 72) 24 24 rfl (v2 := .slice (some ⟨_, 0, none⟩) 2 2) rfl rfl (run_row_block (w.heap.size + 1) (w.alloc (.cells #[.int .u8 k, .string val, .string dt, .string lang] 32)) _ bs v1 (n + (val.extract st i).size) _ [_, _] 2 rfl h1.row (by intro u hu; simp at hu; rcases hu with rfl | rfl <;> rfl) (by rw [HSX.out]; omega)) ?_; intro v2 w2 h2))
          · go_roundw
            case rel => exact ⟨_, i + 1, i + 1, by go_num, by go_num, Nat.le_refl _, by omega, h2.row, by rw [HSX.out]; omega, by rw [HSX.out]; omega⟩
            case measure => simp [intOf]; omega
          · have q0 := UInt8.toNat_lt val[i]
            have q1 : (0 : Int) ≤ (val[i].toNat : Int) / 16 := by omega
            have q2 : (val[i].toNat : Int) / 16 < 16 := by omega
            have q3 := and15_lo val[i]
            have q4 := and15_hi val[i]
            clear q0
            go_region_law (refine step_append rfl (.tmp 74) (.tmp 81) 24 24 rfl (v2 := .slice (some ⟨_, 0, none⟩) 6 6) rfl rfl (run_row_block_drew (w.heap.size + 1) (w.alloc (.cells #[.int .u8 k, .string val, .string dt, .string lang] 32)) _ bs v1 (n + (val.extract st i).size) _ [_, _, _, _, _, _] 6 rfl h1.row (by intro u hu; simp at hu; rcases hu with rfl | rfl | rfl | rfl | rfl | rfl <;> rfl) (by rw [HSX.out]; omega)) ?_; intro v2 w2 h2)
            all_goals
              go_wp2
              go_roundw
              case rel => exact ⟨_, i + 1, i + 1, by go_num, by go_num, Nat.le_refl _, by omega, h2.row, by rw [HSX.out]; omega, by rw [HSX.out]; omega⟩
              case measure => simp [intOf]; omega
    · obtain rfl : i = val.size := by omega
      have hc2 := hrow.field 2
      have hc3 := hrow.field 3
      have HSX : Hid ((val.extract st val.size).size = val.size - st) := by show _ = _; rw [ByteArray.size_extract]; omega
      go_wp2_with (first
        | (at_builtin; refine list_append rfl (.tmp 83) (.tmp 87) 24 9 rfl (v2 := .string (val.extract st val.size)) rfl rfl (run_row_str (w.heap.size + 1) (w.alloc (.cells #[.int .u8 k, .string val, .string dt, .string lang] 32)) _ bs _ n _ (val.extract st val.size) hrow (by rw [HSX.out]; omega)) ?_; intro v1 w1 h1; have hz1' := h1.row.size1)
        | (at_builtin; refine list_append rfl (.tmp 88) (.tmp 89) 24 24 rfl (v2 := .slice (some ⟨_, 0, none⟩) 1 1) rfl rfl (run_row_byte (w.heap.size + 1) (w.alloc (.cells #[.int .u8 k, .string val, .string dt, .string lang] 32)) _ bs v1 (n + (val.extract st val.size).size) _ _ (h1.row.alloc _) (by refine Src.new _ _ ?_; simp) (by rw [HSX.out]; omega)) ?_; intro v2 w2 h2; have hz2 := h2.row.size1; have hd2 := h2.row.field 2; have hd3 := h2.row.field 3))
      · go_region_law (first
          | (refine step_append rfl (.tmp 95) (.tmp 96) 24 24 rfl (v2 := .slice (some ⟨_, 0, none⟩) 1 1) rfl rfl (run_row_byte (w.heap.size + 1) (w.alloc (.cells #[.int .u8 k, .string val, .string dt, .string lang] 32)) _ bs v2 (n + (val.extract st val.size).size + 1) _ _ (h2.row.alloc _).drew (by refine (Src.new _ _ ?_).drew; simp) (by rw [HSX.out]; omega)) ?_; intro v3 w3 h3; have he3 := h3.row.field 3; have hz3 := h3.row.size1)
          | (refine step_append rfl (.tmp 97) (.tmp 99) 24 9 rfl (v2 := .string lang) rfl rfl (run_row_str (w.heap.size + 1) (w.alloc (.cells #[.int .u8 k, .string val, .string dt, .string lang] 32)) _ bs v3 (n + (val.extract st val.size).size + 1 + 1) _ lang h3.row (by rw [HSX.out]; omega)) ?_; intro v4 w4 h4))
        all_goals
          go_wp2
          go_ret
          exact longer_of h4.row (by rw [HSX.out]; omega)
      · go_region_law (first
          | (refine step_append rfl (.tmp 105) (.const (.string ⟨#[94, 94, 60]⟩)) 24 9 rfl (v2 := .string ⟨#[94, 94, 60]⟩) rfl rfl (run_row_str (w.heap.size + 1) (w.alloc (.cells #[.int .u8 k, .string val, .string dt, .string lang] 32)) _ bs v2 (n + (val.extract st val.size).size + 1) _ ⟨#[94, 94, 60]⟩ (by first | exact h2.row.drew | exact (h2.row.alloc _).drew) (by rw [HSX.out, sz3]; omega)) ?_; intro v3 w3 h3; rw [sz3] at h3; have he2 := h3.row.field 2; have hz3 := h3.row.size1)
          | (refine step_append rfl (.tmp 106) (.tmp 108) 24 9 rfl (v2 := .string dt) rfl rfl (run_row_str (w.heap.size + 1) (w.alloc (.cells #[.int .u8 k, .string val, .string dt, .string lang] 32)) _ bs v3 (n + (val.extract st val.size).size + 1 + 3) _ dt (by first | exact h3.row | exact h3.row.alloc _) (by rw [HSX.out]; omega)) ?_; intro v4 w4 h4; have hz4 := h4.row.size1)
          | (refine step_append rfl (.tmp 109) (.tmp 110) 24 24 rfl (v2 := .slice (some ⟨_, 0, none⟩) 1 1) rfl rfl (run_row_byte (w.heap.size + 1) (w.alloc (.cells #[.int .u8 k, .string val, .string dt, .string lang] 32)) _ bs v4 (n + (val.extract st val.size).size + 1 + 3 + dt.size) _ _ (by first | exact h4.row | exact h4.row.alloc _) (by first | (refine Src.new _ _ ?_; simp; done) | (refine (Src.new _ _ ?_).kept h4.grown (h3.row.ne_new ?_) <;> simp; done) | (refine src_two h3.row (by omega) (((Src.new _ _ ?_).drew).kept h3.grown (h2.row.ne_new ?_)) h4.grown <;> simp; done)) (by rw [HSX.out]; omega)) ?_; intro v5 w5 h5))
        all_goals
          go_wp2
          go_ret
          exact longer_of h5.row (by rw [HSX.out]; omega)
      · go_ret
        exact longer_of h2.row (by rw [HSX.out]; omega)
end Go.Proofs.Qxb6609053a
