/-
  The helpers of FnMatchPatternEveryFillingMatches: zzBytes.. (9), zzStringsBytes (10), zzAdd (11), zzFill (12).
-/
import Derived.Test.Qxb6606156aRows
import Derived.Test.Qxb6606156aPlain
import Derived.WalkKit
import Derived.WalkSpells
import Derived.WalkLawsBesides
import Derived.WideShapes
namespace Go.Proofs.Qxb6606156a.Fl
open Go.RowKit

/-- What the walks are told of a []string: no element (whatever the address), or an address with its cells. -/
def IsStrs (w : World) (a : Option Addr) (ss : List ByteArray) : Prop :=
  ss.length = 0 ∨ ∃ b off, a = some ⟨b, off, none⟩ ∧ b < w.heap.size ∧ ∀ k, k < ss.length → w.cell? ⟨b, off + k, none⟩ = some (.string (ss.getD k ByteArray.empty))

theorem IsStrs.below {w w' : World} {a : Option Addr} {ss : List ByteArray} (h : IsStrs w a ss) (hb : Below w.heap.size w w') : IsStrs w' a ss := by
  rcases h with h | ⟨b, off, h1, h2, h3⟩
  · exact .inl h
  · exact .inr ⟨b, off, h1, Nat.lt_of_lt_of_le h2 hb.size, fun k hk => (hb.cell (p := ⟨b, off + k, none⟩) h2).trans (h3 k hk)⟩

def sumSz : List ByteArray → Nat
  | [] => 0
  | s :: l => s.size + sumSz l

theorem sumSz_take : ∀ (ss : List ByteArray) (k : Nat), k < ss.length → sumSz (ss.take (k + 1)) = sumSz (ss.take k) + (ss.getD k ByteArray.empty).size
  | [], _, h => by simp at h
  | s :: l, 0, _ => by simp [sumSz]
  | s :: l, k + 1, h => by
    have := sumSz_take l k (by simpa using h)
    simp only [List.take_succ_cons, sumSz]
    rw [this]
    simp [Nat.add_assoc]
theorem sumSz_take_le : ∀ (ss : List ByteArray) (k : Nat), sumSz (ss.take k) ≤ sumSz ss
  | [], _ => by simp [sumSz]
  | s :: l, 0 => by simp [sumSz]
  | s :: l, k + 1 => by simp only [List.take_succ_cons, sumSz]; have := sumSz_take_le l k; omega
theorem sumSz_take_mono (ss : List ByteArray) (k : Nat) : sumSz (ss.take k) ≤ sumSz (ss.take (k + 1)) := by
  by_cases h : k < ss.length
  · rw [sumSz_take ss k h]; omega
  · rw [List.take_of_length_le (by omega), List.take_of_length_le (by omega)]; exact Nat.le_refl _

theorem add_small (t n : Int) (w : World) (h0 : 0 ≤ t) (h1 : 0 ≤ n) (h2 : t ≤ 1048576) (h3 : n ≤ 1048576) :
    Calls Try.prog 11 #[.int .i64 t, .int .i64 n] w fun e w' => e = .returned (.int .i64 (t + n)) ∧ w' = w := by
  go_enter Try.func11, Try.ntmps11
  go_wp2
  go_ret
  exact ⟨rfl, rfl⟩
theorem add_big (t n : Int) (w : World) (h2 : 1048576 < t ∨ 1048576 < n) :
    Calls Try.prog 11 #[.int .i64 t, .int .i64 n] w fun e w' => e = .returned (.int .i64 1048577) ∧ w' = w := by
  by_cases h : 1048576 < t
  · go_enter Try.func11, Try.ntmps11
    go_wp2
    go_ret
    exact ⟨rfl, rfl⟩
  · have h3 : 1048576 < n := by omega
    go_enter Try.func11, Try.ntmps11
    go_wp2
    go_ret
    exact ⟨rfl, rfl⟩

set_option maxHeartbeats 400000 in
theorem strings_any (t : Int) (a : Option Addr) (len cap : Nat) (ss : List ByteArray) (w : World) (hlen : ss.length = len) (hs : IsStrs w a ss) (h0 : 0 ≤ t) (h1 : t ≤ 2097152) (hl : len ≤ 65536) :
    Calls Try.prog 10 #[.int .i64 t, .slice a len cap] w fun e w' => (∃ z : Int, e = .returned (.int .i64 z) ∧ 0 ≤ z ∧ (z ≤ 1048576 → z = t + sumSz ss)) ∧ w' = w := by
  go_enter Try.func10, Try.ntmps10
  go_wp2
  go_loop [0, 8] (fun st si => ∃ (k : Nat) (z : Int), k ≤ len ∧ si = .int .i64 k ∧ st = .int .i64 z ∧ 0 ≤ z ∧ z ≤ 2097152 ∧ (z ≤ 1048576 → z = t + sumSz (ss.take k))) (fun _ i => len - (intOf i).toNat)
  case atStart => exact ⟨0, t, Nat.zero_le _, rfl, rfl, h0, h1, fun _ => by simp [sumSz]⟩
  case round =>
    obtain ⟨k, z, hk, rfl, rfl, hz0, hz1, hz⟩ := hrel
    have HZ : Hid (z ≤ 1048576 → z = t + sumSz (ss.take k)) := hz
    clear hz
    by_cases hlt : k < len
    · rcases hs with hs | ⟨b, off, rfl, hb, hcell⟩
      · omega
      · have hc := hcell k (by omega)
        have HS : Hid (sumSz (ss.take (k + 1)) = sumSz (ss.take k) + (ss.getD k ByteArray.empty).size) := sumSz_take ss k (by omega)
        obtain ⟨f, hf⟩ : ∃ f, f = ss.getD k ByteArray.empty := ⟨_, rfl⟩
        rw [← hf] at hc HS
        clear hf hcell
        by_cases hbig : 1048576 < z ∨ 1048576 < (f.size : Int)
        · go_wp2_with (go_at_call 11; refine (add_big _ _ _ hbig).mono ?_; rintro e w' ⟨rfl, rfl⟩)
          go_round
          case rel => exact ⟨k + 1, 1048577, by omega, by go_num, rfl, by omega, by omega, fun h => by omega⟩
          case measure => simp [intOf]; omega
        · go_wp2_with (go_at_call 11; refine (add_small _ _ _ (by omega) (by omega) (by omega) (by omega)).mono ?_; rintro e w' ⟨rfl, rfl⟩)
          go_round
          case rel => exact ⟨k + 1, z + f.size, by omega, by go_num, rfl, by omega, by omega, fun h => by rw [HS.out]; have := HZ.out (by omega); omega⟩
          case measure => simp [intOf]; omega
    · obtain rfl : k = len := by omega
      go_wp2
      go_ret
      refine ⟨⟨z, rfl, hz0, fun h => ?_⟩, rfl⟩
      rw [HZ.out h, List.take_of_length_le (by omega)]

def IsBool (e : Ending) : Prop := ∃ r : Bool, e = .returned (.bool r)
theorem isBool (r : Bool) : IsBool (.returned (.bool r)) := ⟨r, rfl⟩

set_option maxHeartbeats 400000 in
theorem bytes_any (p : ByteArray) (a : Option Addr) (len cap : Nat) (ss : List ByteArray) (w : World) (hlen : ss.length = len) (hs : IsStrs w a ss) (hp : p.size ≤ 9223372036854775807) (hl : len ≤ 9223372036854775807) (hz : ∀ s ∈ ss, s.size ≤ 9223372036854775807) :
    Calls Try.prog 9 #[.string p, .slice a len cap] w fun e w' => IsBool e ∧ w' = w := by
  by_cases hb : p.size + len ≤ 1048576
  · go_enter Try.func9, Try.ntmps9
    go_wp2
    go_loop [5, 6] (fun sz si => ∃ (k : Nat) (z : Int), k ≤ len ∧ si = .int .i64 k ∧ sz = .int .i64 z ∧ 0 ≤ z ∧ z ≤ 1048576) (fun _ i => len - (intOf i).toNat)
    case atStart => exact ⟨0, _, Nat.zero_le _, rfl, rfl, by omega, by omega⟩
    case round =>
      obtain ⟨k, z, hk, rfl, rfl, hz0, hz1⟩ := hrel
      by_cases hlt : k < len
      · rcases hs with hs | ⟨b, off, rfl, hb, hcell⟩
        · omega
        · have hc := hcell k (by omega)
          have hf1 := hz (ss.getD k ByteArray.empty) (by rw [List.getD_eq_getElem?_getD, List.getElem?_eq_getElem (by omega)]; exact List.getElem_mem _)
          obtain ⟨f, hf⟩ : ∃ f, f = ss.getD k ByteArray.empty := ⟨_, rfl⟩
          rw [← hf] at hc hf1
          clear hf hcell hz
          go_wp2
          · go_ret
            exact ⟨isBool _, rfl⟩
          · go_ret
            exact ⟨isBool _, rfl⟩
          · go_round
            case rel => exact ⟨k + 1, _, by omega, by go_num, rfl, by omega, by omega⟩
            case measure => simp [intOf]; omega
      · go_wp2
        go_ret
        exact ⟨isBool _, rfl⟩
  · by_cases h1 : p.size ≤ 1048576
    · by_cases h2 : len ≤ 1048576
      · go_enter Try.func9, Try.ntmps9
        go_wp2
        go_ret
        exact ⟨isBool _, rfl⟩
      · go_enter Try.func9, Try.ntmps9
        go_wp2
        go_ret
        exact ⟨isBool _, rfl⟩
    · go_enter Try.func9, Try.ntmps9
      go_wp2
      go_ret
      exact ⟨isBool _, rfl⟩

/-! ### zzFill -/
def cb (b : UInt8) : Value := .int .u8 (b.toNat : Int)
def txt (s : ByteArray) : List UInt8 := s.data.toList
def fillT (p : ByteArray) (ss : List ByteArray) : List UInt8 := Pl.fill (txt p) (ss.map txt)
def fillR (p : ByteArray) (ss : List ByteArray) (i k : Nat) : List UInt8 := Pl.fill ((txt p).drop i) ((ss.map txt).drop k)

theorem drop_cons (s : ByteArray) (k : Nat) (h : k < s.size) : (txt s).drop k = s[k] :: (txt s).drop (k + 1) := by
  unfold txt
  rw [List.drop_eq_getElem_cons (by simpa using h)]; rfl

theorem fillR_chr (p : ByteArray) (ss : List ByteArray) (i k : Nat) (hi : i < p.size) (hc : ((p[i].toNat : Int) != 42) = true) : fillR p ss i k = p[i] :: fillR p ss (i + 1) k := by
  have h : (p[i] == 42) = false := by
    rw [Bool.eq_false_iff]; intro e; rw [beq_iff_eq.1 e] at hc; simp at hc
  unfold fillR
  rw [drop_cons p i hi, Pl.fill, h]
  simp
theorem fillR_star (p : ByteArray) (ss : List ByteArray) (i k : Nat) (hi : i < p.size) (hc : ((p[i].toNat : Int) != 42) = false) (hk : k < ss.length) : fillR p ss i k = txt (ss.getD k ByteArray.empty) ++ fillR p ss (i + 1) (k + 1) := by
  have h : (p[i] == 42) = true := by
    have h1 : (p[i].toNat : Int) = 42 := by simpa using hc
    have h2 : p[i].toNat = (42 : UInt8).toNat := by show p[i].toNat = 42; omega
    rw [UInt8.toNat_inj.1 h2]; rfl
  unfold fillR
  rw [drop_cons p i hi, Pl.fill, h, if_pos rfl]
  congr 1
  · rw [List.headD_eq_head?_getD, List.head?_drop, List.getElem?_map, List.getElem?_eq_getElem hk]
    simp [List.getD_eq_getElem?_getD, List.getElem?_eq_getElem hk]
  · rw [List.tail_drop]
theorem fillR_none (p : ByteArray) (ss : List ByteArray) (i k : Nat) (hi : i < p.size) (hc : ((p[i].toNat : Int) != 42) = false) (hk : ¬ k < ss.length) : fillR p ss i k = fillR p ss (i + 1) (k + 1) := by
  have h : (p[i] == 42) = true := by
    have h1 : (p[i].toNat : Int) = 42 := by simpa using hc
    have h2 : p[i].toNat = (42 : UInt8).toNat := by show p[i].toNat = 42; omega
    rw [UInt8.toNat_inj.1 h2]; rfl
  unfold fillR
  have e1 : (ss.map txt).drop k = [] := List.drop_eq_nil_of_le (by rw [List.length_map]; omega)
  have e2 : (ss.map txt).drop (k + 1) = [] := List.drop_eq_nil_of_le (by rw [List.length_map]; omega)
  rw [drop_cons p i hi, Pl.fill, h, if_pos rfl, e1, e2]
  rfl

theorem Try.info5 : (Try.prog.info? 5).map (fun i => (i.zero, i.size, i.bytes)) = some (some (.int .u8 0), 1, 1) := by kernel_rfl

theorem own_snoc {w : World} {B T : Nat} {xs : List UInt8} {c : UInt8} (h : w.ownsRow B 5 1 (.slice (some ⟨B, 0, none⟩) (xs.length + 1) T) (xs.length + 1) (xs.map cb ++ [cb c])) :
    w.ownsRow B 5 1 (.slice (some ⟨B, 0, none⟩) (xs ++ [c]).length T) (xs ++ [c]).length ((xs ++ [c]).map cb) := by
  rw [List.length_append, List.map_append]; exact h

theorem slice_snoc (B T : Nat) (xs : List UInt8) (c : UInt8) : Value.slice (some ⟨B, 0, none⟩) (xs.length + 1) T = .slice (some ⟨B, 0, none⟩) (xs ++ [c]).length T := by
  rw [List.length_append]; rfl

theorem take_txt (s : ByteArray) (k : Nat) (h : k < s.size) : (txt s).take (k + 1) = (txt s).take k ++ [s[k]] := by
  unfold txt
  rw [List.take_succ_eq_append_getElem (by simpa using h)]; rfl

set_option maxHeartbeats 1000000 in
theorem fill_any (p : ByteArray) (a : Option Addr) (len cap T : Nat) (ss : List ByteArray) (w : World) (hlen : ss.length = len) (hs : IsStrs w a ss) (hT : p.size + sumSz ss ≤ T) (hT1 : T ≤ 1048576) (hl : len ≤ 65536) :
    Calls Try.prog 12 #[.string p, .slice a len cap, .int .i64 T] w fun e w' => e = .returned (.string ⟨(fillT p ss).toArray⟩) ∧ (fillT p ss).length ≤ T ∧ Below w.heap.size w w' := by
  obtain ⟨i0, hi, hz0, hz1, hz2⟩ := info_parts Try.info5
  go_enter Try.func12, Try.ntmps12
  go_wp2_with (at_make; refine wpList_make_own _ rfl _ _ 30 rfl w.heap.size 5 i0 (.int .u8 0) 1 Try.underlying30 hi hz0 hz1 _ _ _ T rfl rfl rfl ?b2 ?b3 (Nat.le_refl _) ?_)
  case b2 => rw [hz2]; omega
  case b3 => unfold maxLen; omega
  intro w0 hown0 hgrow0
  go_wp2
  go_loopw [7, 8, 9] (fun sb sk si wr => ∃ (i k : Nat) (xs : List UInt8), i ≤ p.size ∧ k ≤ i ∧ si = .int .i64 i ∧ sk = .int .i64 k ∧ sb = .slice (some ⟨w.heap.size, 0, none⟩) xs.length T ∧
      wr.ownsRow w.heap.size 5 1 (.slice (some ⟨w.heap.size, 0, none⟩) xs.length T) xs.length (xs.map cb) ∧ xs ++ fillR p ss i k = fillT p ss ∧ xs.length ≤ i + sumSz (ss.take k) ∧ Below w.heap.size w wr)
    (fun _ _ si _ => p.size - (intOf si).toNat)
  case atStart => exact ⟨0, 0, [], Nat.zero_le _, Nat.zero_le _, rfl, rfl, rfl, hown0, rfl, by simp, (Below.refl _ _).grown hgrow0 (Nat.le_refl _) (fun k h => by cases h)⟩
  case round =>
    obtain ⟨i, k, xs, hil, hki, rfl, rfl, rfl, hown, hx, hxl, hnx⟩ := hrel
    have HX : Hid (xs ++ fillR p ss i k = fillT p ss) := hx
    have hst := sumSz_take_le ss k
    have hsz := hnx.size
    clear hx hown0 hgrow0
    by_cases hlt : i < p.size
    · by_cases hc : ((p[i].toNat : Int) != 42) = true
      · have HF : Hid (fillR p ss i k = p[i] :: fillR p ss (i + 1) k) := fillR_chr p ss i k hlt hc
        go_wp2_with (at_builtin; refine wpList_append_fits _ rfl (.tmp 26) (.tmp 28) 30 rfl w.heap.size 5 i0 1 Try.underlying30 hi hz1 w.heap.size xs.length T _ rfl (hown.alloc _) ⟨wr.heap.size, 0, none⟩ 1 1 [cb p[i]] rfl rfl (by intro t u ht; match t, ht with | 0, ht => simp at ht; subst ht; simp [Addr.add, cb]) (by intro u hu; simp at hu; subst hu; rfl) (by omega) ?_; intro w1 hown1 hgrow1)
        go_roundw
        case rel =>
          refine ⟨i + 1, k, xs ++ [p[i]], by omega, by omega, by go_num, rfl, slice_snoc _ _ _ _, own_snoc hown1, ?_, by rw [List.length_append]; show xs.length + 1 ≤ _; omega, (hnx.alloc hsz _).grown hgrow1 (by simp; omega) (fun k hk => by cases hk; exact Nat.le_refl _)⟩
          rw [← HX.out, HF.out]; simp
        case measure => simp [intOf]; omega
      · have hc' : ((p[i].toNat : Int) != 42) = false := by simpa using hc
        clear hc
        by_cases hk : k < len
        · have HF : Hid (fillR p ss i k = txt (ss.getD k ByteArray.empty) ++ fillR p ss (i + 1) (k + 1)) := fillR_star p ss i k hlt hc' (by omega)
          have HS : Hid (sumSz (ss.take (k + 1)) = sumSz (ss.take k) + (ss.getD k ByteArray.empty).size) := sumSz_take ss k (by omega)
          have hst2 := sumSz_take_le ss (k + 1)
          rcases hs with hs | ⟨b, off, rfl, hb, hcell⟩
          · omega
          · have hcf := (hnx.cell (p := ⟨b, off + k, none⟩) hb).trans (hcell k (by omega))
            obtain ⟨f, hf⟩ : ∃ f, f = ss.getD k ByteArray.empty := ⟨_, rfl⟩
            rw [← hf] at hcf HS HF
            clear hf hcell
            have hS2 : sumSz (ss.take k) + f.size ≤ sumSz ss := by rw [← HS.out]; exact hst2
            clear hst2
            obtain ⟨wo, rfl⟩ : ∃ wo : World, wo = wr := ⟨_, rfl⟩
            go_wp2
            go_loopw [7, 12] (fun sb sj wi => ∃ (j : Nat) (ys : List UInt8), j ≤ f.size ∧ sj = .int .i64 j ∧ sb = .slice (some ⟨w.heap.size, 0, none⟩) ys.length T ∧
                wi.ownsRow w.heap.size 5 1 (.slice (some ⟨w.heap.size, 0, none⟩) ys.length T) ys.length (ys.map cb) ∧ ys = xs ++ (txt f).take j ∧ ys.length = xs.length + j ∧ Below w.heap.size w wi)
              (fun _ sj _ => f.size - (intOf sj).toNat)
            case atStart => exact ⟨0, xs, Nat.zero_le _, rfl, rfl, hown, by simp, rfl, hnx⟩
            case round =>
              obtain ⟨j, ys, hj, rfl, rfl, hown2, hys, hyl, hnx2⟩ := hrel
              have HY : Hid (ys = xs ++ (txt f).take j) := hys
              have HYL : Hid (ys.length = xs.length + j) := hyl
              have hylle : ys.length ≤ xs.length + j := Nat.le_of_eq hyl
              have hsz2 := hnx2.size
              clear hys hyl hown hcf
              by_cases hjl : j < f.size
              · have HT2 : Hid ((txt f).take (j + 1) = (txt f).take j ++ [f[j]]) := take_txt f j hjl
                go_wp2_with (at_builtin; refine wpList_append_fits _ rfl (.tmp 44) (.tmp 48) 30 rfl w.heap.size 5 i0 1 Try.underlying30 hi hz1 w.heap.size ys.length T _ rfl (hown2.alloc _) ⟨wr.heap.size, 0, none⟩ 1 1 [cb f[j]] rfl rfl (by intro t u ht; match t, ht with | 0, ht => simp at ht; subst ht; simp [Addr.add, cb]) (by intro u hu; simp at hu; subst hu; rfl) (by omega) ?_; intro w1 hown1 hgrow1)
                go_roundw
                case rel =>
                  refine ⟨j + 1, ys ++ [f[j]], by omega, by go_num, slice_snoc _ _ _ _, own_snoc hown1, ?_, by rw [List.length_append]; show ys.length + 1 = _; rw [HYL.out]; omega, (hnx2.alloc hsz2 _).grown hgrow1 (by simp; omega) (fun k hk => by cases hk; exact Nat.le_refl _)⟩
                  rw [HT2.out, HY.out]; simp
                case measure => simp [intOf]; omega
              · obtain rfl : j = f.size := by omega
                go_wp2
                go_roundw
                case rel =>
                  refine ⟨i + 1, k + 1, ys, by omega, by omega, by go_num, by go_num, rfl, hown2, ?_, by rw [HS.out]; omega, hnx2⟩
                  rw [← HX.out, HF.out, HY.out, List.take_of_length_le (by simp [txt]), List.append_assoc]
                case measure => simp [intOf]; omega
        · have HF : Hid (fillR p ss i k = fillR p ss (i + 1) (k + 1)) := fillR_none p ss i k hlt hc' (by omega)
          have hmono := sumSz_take_mono ss k
          go_wp2
          go_roundw
          case rel =>
            refine ⟨i + 1, k + 1, xs, by omega, by omega, by go_num, by go_num, rfl, hown, ?_, by omega, hnx⟩
            rw [← HX.out, HF.out]
          case measure => simp [intOf]; omega
    · obtain rfl : i = p.size := by omega
      have hxe : xs = fillT p ss := by
        rw [← HX.out]
        unfold fillR
        rw [List.drop_eq_nil_of_le (by simp [txt]), Pl.fill, List.append_nil]
      have hconv := run_convert_bytes_back (P := Try.prog) wr 30 9 5 ⟨w.heap.size, 0, none⟩ T xs Try.underlying30 Try.underlying5 Try.underlying9 (fun j hj => by
        have := hown.cellAt j (by omega)
        rw [WideShapes.add_plain, Nat.zero_add, this, List.getElem?_map, List.getElem?_eq_getElem hj]
        rfl)
      have HXE : Hid (xs = fillT p ss) := hxe
      clear hxe
      go_wp2
      go_ret
      exact ⟨congrArg (fun l : List UInt8 => Ending.returned (.string ⟨l.toArray⟩)) HXE.out, by rw [← HXE.out]; omega, hnx⟩
end Go.Proofs.Qxb6606156a.Fl
