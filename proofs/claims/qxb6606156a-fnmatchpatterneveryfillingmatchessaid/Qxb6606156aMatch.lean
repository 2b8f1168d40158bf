/-
  matchPattern (function 14) and ZZmatchPattern (7): they return 'Pl.M pattern value'.
-/
import Derived.Test.Qxb6606156aRows
import Derived.Test.Qxb6606156aPlain
import Derived.Test.Qxb6606156aShelf
import Derived.WalkKit
import Derived.WalkSpells
import Derived.WalkLawsBesides
namespace Go.Proofs.Qxb6606156a
open Go.RowKit

theorem ba_ext {a b : ByteArray} (h : a.data.toList = b.data.toList) : a = b := by
  cases a; cases b; simp at h; rw [h]

theorem cut_no (s : ByteArray) (m : Int) (w : World) (hs : s.size < 4294967281) (hm : w.cell? ⟨0, 0, none⟩ = some (.int .i64 m)) (hn : ∀ d ∈ s.data.toList, d ≠ 42) :
    Calls Try.prog 15 #[.string s, .string ⟨#[42]⟩] w fun e w' => e = .returned (.tuple #[.string s, .string ⟨#[]⟩, .bool false]) ∧ ∃ n, w' = w.drewN n := by
  refine (Try.strings_Cut s ⟨#[42]⟩ m w hs hm).mono ?_
  rintro e w' ⟨rfl, h⟩
  refine ⟨?_, h⟩
  rcases Pl.cut_spec s.data.toList with ⟨h1, _⟩ | ⟨part, more, h1, h2, h3⟩
  · show Ending.returned (.tuple #[.string ⟨(Lib.cut s.data.toList [42]).1.toArray⟩, .string ⟨(Lib.cut s.data.toList [42]).2.1.toArray⟩, .bool (Lib.cut s.data.toList [42]).2.2]) = _
    rw [h1]
  · exact absurd rfl (hn 42 (by rw [h2]; simp))

theorem cut_yes (s part more : ByteArray) (m : Int) (w : World) (hs : s.size < 4294967281) (hm : w.cell? ⟨0, 0, none⟩ = some (.int .i64 m)) (hp : Lib.cut s.data.toList [42] = (part.data.toList, more.data.toList, true)) :
    Calls Try.prog 15 #[.string s, .string ⟨#[42]⟩] w fun e w' => e = .returned (.tuple #[.string part, .string more, .bool true]) ∧ ∃ n, w' = w.drewN n := by
  refine (Try.strings_Cut s ⟨#[42]⟩ m w hs hm).mono ?_
  rintro e w' ⟨rfl, h⟩
  refine ⟨?_, h⟩
  show Ending.returned (.tuple #[.string ⟨(Lib.cut s.data.toList [42]).1.toArray⟩, .string ⟨(Lib.cut s.data.toList [42]).2.1.toArray⟩, .bool (Lib.cut s.data.toList [42]).2.2]) = _
  rw [hp]

theorem cutB (s : ByteArray) : (∀ d ∈ s.data.toList, d ≠ 42) ∨ ∃ part more : ByteArray, Lib.cut s.data.toList [42] = (part.data.toList, more.data.toList, true) ∧ s.data.toList = part.data.toList ++ 42 :: more.data.toList ∧ (∀ d ∈ part.data.toList, d ≠ 42) ∧ s.size = part.size + more.size + 1 := by
  rcases Pl.cut_spec s.data.toList with ⟨_, h1⟩ | ⟨part, more, h1, h2, h3⟩
  · exact .inl h1
  · refine .inr ⟨⟨part.toArray⟩, ⟨more.toArray⟩, h1, h2, h3, ?_⟩
    have := congrArg List.length h2
    simp at this
    have h0 : s.data.size = s.size := rfl
    show s.size = part.length + more.length + 1
    omega

theorem cutprefix_yes (v head x : ByteArray) (w : World) (h : Lib.hasPrefix v.data.toList head.data.toList = true) (hx : x.data.toList = Lib.trimPrefix v.data.toList head.data.toList) :
    Calls Try.prog 16 #[.string v, .string head] w fun e w' => e = .returned (.tuple #[.string x, .bool true]) ∧ w' = w := by
  refine (Try.strings_CutPrefix v head w).mono ?_
  rintro e w' ⟨rfl, rfl⟩
  refine ⟨?_, rfl⟩
  rw [h, ← hx]

theorem index_no (v part : ByteArray) (m : Int) (w : World) (hs : v.size < 4294967281) (hm : w.cell? ⟨0, 0, none⟩ = some (.int .i64 m)) (h : Lib.index v.data.toList part.data.toList = -1) :
    Calls Try.prog 18 #[.string v, .string part] w fun e w' => e = .returned (.int .i64 (-1)) ∧ w' = w := by
  refine (Try.strings_Index v part m w hs hm).mono ?_
  rintro e w' ⟨rfl, rfl⟩
  exact ⟨by rw [h], rfl⟩
theorem index_yes (v part : ByteArray) (k : Nat) (m : Int) (w : World) (hs : v.size < 4294967281) (hm : w.cell? ⟨0, 0, none⟩ = some (.int .i64 m)) (h : Lib.index v.data.toList part.data.toList = k) :
    Calls Try.prog 18 #[.string v, .string part] w fun e w' => e = .returned (.int .i64 (k : Int)) ∧ w' = w := by
  refine (Try.strings_Index v part m w hs hm).mono ?_
  rintro e w' ⟨rfl, rfl⟩
  exact ⟨by rw [h], rfl⟩

def strLen : Value → Nat | .string s => s.size | _ => 0

theorem extract_end (x : ByteArray) (a : Nat) : (x.extract a x.size).data.toList = x.data.toList.drop a := by
  rw [Lib.extract_data]
  refine List.take_of_length_le ?_
  rw [List.length_drop, Array.length_toList]
  exact Nat.le_refl _

set_option maxHeartbeats 1000000 in
theorem match_any (p v : ByteArray) (m : Int) (w : World) (hp : p.size ≤ 2097152) (hv : v.size ≤ 2097152) (hm : w.cell? ⟨0, 0, none⟩ = some (.int .i64 m)) :
    Calls Try.prog 14 #[.string p, .string v] w fun e w' => e = .returned (.bool (Pl.M p.data.toList v.data.toList)) ∧ ∃ n, w' = w.drewN n := by
  rcases cutB p with hn | ⟨head, rest, hcut, hpe, hn, hsz⟩
  · have HE : Hid (Pl.M p.data.toList v.data.toList = (p.data.toList == v.data.toList)) := Pl.M_plain hn _
    go_enter Try.func14, Try.ntmps14
    go_wp2_with (go_at_call 15; refine (cut_no _ m _ (by omega) hm hn).mono ?_; rintro e w' ⟨rfl, n, rfl⟩)
    go_ret
    exact ⟨congrArg (fun b => Ending.returned (.bool b)) (by rw [HE.out, Lib.toList_data, Lib.toList_data]), n, rfl⟩
  · have HE : Hid (Pl.M p.data.toList v.data.toList = (Lib.hasPrefix v.data.toList head.data.toList && Pl.M (42 :: rest.data.toList) (Lib.trimPrefix v.data.toList head.data.toList))) := by
      show _ = _; rw [hpe]; exact Pl.M_head hn _ _
    have HC : Hid (Lib.cut p.data.toList [42] = (head.data.toList, rest.data.toList, true)) := hcut
    clear hcut hpe hn
    cases hpre : Lib.hasPrefix v.data.toList head.data.toList
    · rw [hpre, Bool.false_and] at HE
      go_enter Try.func14, Try.ntmps14
      go_wp2_with (first | (go_at_call 15; refine (cut_yes _ head rest m _ (by omega) hm HC.out).mono ?_; rintro e w' ⟨rfl, n, rfl⟩) | (go_at_call 16; refine (Try.strings_CutPrefix _ _ _).mono ?_; rintro e w' ⟨rfl, rfl⟩; rw [hpre]))
      go_ret
      exact ⟨congrArg (fun b => Ending.returned (.bool b)) HE.out.symm, n, rfl⟩
    · obtain ⟨x0, hx0⟩ : ∃ x0 : ByteArray, x0.data.toList = Lib.trimPrefix v.data.toList head.data.toList := ⟨⟨(Lib.trimPrefix v.data.toList head.data.toList).toArray⟩, rfl⟩
      have hxl : x0.size ≤ v.size := by
        have h1 := Lib.trimPrefix_le v.data.toList head.data.toList
        rw [← hx0, Array.length_toList, Array.length_toList] at h1
        exact h1
      have HX : Hid (x0.data.toList = Lib.trimPrefix v.data.toList head.data.toList) := hx0
      rw [hpre, Bool.true_and, ← hx0] at HE
      have HPRE : Hid (Lib.hasPrefix v.data.toList head.data.toList = true) := hpre
      clear hpre hx0
      go_enter Try.func14, Try.ntmps14
      go_wp2_with (first | (go_at_call 15; refine (cut_yes _ head rest m _ (by omega) hm HC.out).mono ?_; rintro e w' ⟨rfl, n, rfl⟩) | (go_at_call 16; refine (cutprefix_yes _ _ x0 _ HPRE.out HX.out).mono ?_; rintro e w' ⟨rfl, rfl⟩))
      go_loopw [1, 6] (fun sv sr wr => ∃ (x r : ByteArray) (n : Nat), sv = .string x ∧ sr = .string r ∧ x.size ≤ 2097152 ∧ r.size ≤ 2097152 ∧ Pl.M p.data.toList v.data.toList = Pl.M (42 :: r.data.toList) x.data.toList ∧ wr = w.drewN n)
        (fun _ sr _ => strLen sr)
      case atStart => exact ⟨x0, rest, n, rfl, rfl, by omega, by omega, HE.out, rfl⟩
      case round =>
        obtain ⟨x, r, n', rfl, rfl, hx, hr, hM, rfl⟩ := hrel
        have HM : Hid (Pl.M p.data.toList v.data.toList = Pl.M (42 :: r.data.toList) x.data.toList) := hM
        have hm' : (w.drewN n').cell? ⟨0, 0, none⟩ = some (.int .i64 m) := hm
        clear hM HE HC HX HPRE
        rcases cutB r with hn | ⟨part, more, hcut, hpe, hn, hsz⟩
        · have HE : Hid (Pl.M (42 :: r.data.toList) x.data.toList = Lib.hasSuffix x.data.toList r.data.toList) := Pl.M_last hn _
          go_wp2_with (first | (go_at_call 15; refine (cut_no _ m _ (by omega) hm' hn).mono ?_; rintro e w' ⟨rfl, n2, rfl⟩) | (go_at_call 17; refine (Try.strings_HasSuffix _ _ _ (by omega)).mono ?_; rintro e w' ⟨rfl, rfl⟩))
          go_ret
          exact ⟨congrArg (fun b => Ending.returned (.bool b)) (by rw [HM.out, HE.out]), _, rfl⟩
        · have HCUT : Hid (Lib.cut r.data.toList [42] = (part.data.toList, more.data.toList, true)) := hcut
          rcases Lib.index_spec x.data.toList part.data.toList with ⟨h1, _⟩ | ⟨k, h1, _⟩
          · have HE : Hid (Pl.M (42 :: r.data.toList) x.data.toList = false) := by
              show _ = _; rw [hpe]; exact Pl.M_next_none hn _ _ (by omega)
            have H1 : Hid (Lib.index x.data.toList part.data.toList = -1) := h1
            clear hcut hpe hn h1
            go_wp2_with (first | (go_at_call 15; refine (cut_yes _ part more m _ (by omega) hm' HCUT.out).mono ?_; rintro e w' ⟨rfl, n2, rfl⟩) | (go_at_call 18; refine (index_no _ _ m _ (by omega) (by exact hm) H1.out).mono ?_; rintro e w' ⟨rfl, rfl⟩))
            go_ret
            exact ⟨congrArg (fun b => Ending.returned (.bool b)) (by rw [HM.out, HE.out]), _, rfl⟩
          · have HE : Hid (Pl.M (42 :: r.data.toList) x.data.toList = Pl.M (42 :: more.data.toList) (x.data.toList.drop (k + part.data.toList.length))) := by
              show _ = _; rw [hpe]; exact Pl.M_next hn _ _ k h1
            have hroom := Lib.index_room x.data.toList part.data.toList (by omega)
            rw [h1, Array.length_toList, Array.length_toList] at hroom
            have hroom' : k + part.size ≤ x.size := by
              have e1 : part.data.size = part.size := rfl
              have e2 : x.data.size = x.size := rfl
              omega
            have H1 : Hid (Lib.index x.data.toList part.data.toList = k) := h1
            clear hcut hpe hn h1 hroom
            go_wp2_with (first | (go_at_call 15; refine (cut_yes _ part more m _ (by omega) hm' HCUT.out).mono ?_; rintro e w' ⟨rfl, n2, rfl⟩) | (go_at_call 18; refine (index_yes _ _ k m _ (by omega) (by exact hm) H1.out).mono ?_; rintro e w' ⟨rfl, rfl⟩))
            go_roundw
            case rel => exact ⟨x.extract (k + part.size) x.size, more, n' + n2, rfl, rfl, by rw [ByteArray.size_extract]; omega, by omega, by rw [HM.out, HE.out, extract_end]; rfl, rfl⟩
            case measure => simp [strLen]; omega
theorem zzmatch_any (p v : ByteArray) (m : Int) (w : World) (hp : p.size ≤ 2097152) (hv : v.size ≤ 2097152) (hm : w.cell? ⟨0, 0, none⟩ = some (.int .i64 m)) :
    Calls Try.prog 7 #[.string p, .string v] w fun e w' => e = .returned (.bool (Pl.M p.data.toList v.data.toList)) ∧ ∃ n, w' = w.drewN n := by
  go_enter Try.func7, Try.ntmps7
  go_wp2_with (go_at_call 14; refine (match_any _ _ m _ hp hv hm).mono ?_; rintro e w' ⟨rfl, n, rfl⟩)
  go_ret
  exact ⟨rfl, n, rfl⟩
end Go.Proofs.Qxb6606156a
