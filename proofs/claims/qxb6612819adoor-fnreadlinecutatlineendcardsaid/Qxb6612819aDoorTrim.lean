/-
  bytes.TrimSuffix of one byte; what readLine hands back, in plain words.
-/
import Derived.Test.Qxb6612819aDoorLine
import Derived.Lib.SlBytesConst
namespace Go.Proofs.Qxb6612819aDoor
open Go.RowKit

theorem suf_last (ds : List Int) (hb : Bytes ds) (p m : Nat) (y : Int) (hm : p + (m + 1) ≤ ds.length) (hy : 0 ≤ y ∧ y < 256) :
    Lib.hasSuffix (Lib.bytesOf ((ds.drop p).take (m + 1))) (Lib.bytesOf [y]) = decide (ds.getD (p + m) 0 = y) := by
  have hlt : m < (ds.drop p).length := by rw [List.length_drop]; omega
  have e1 : (ds.drop p).take (m + 1) = (ds.drop p).take m ++ [ds.getD (p + m) 0] := by
    rw [List.take_add_one, List.getElem?_drop, List.getD_eq_getElem?_getD, List.getElem?_eq_getElem (by omega)]
    rfl
  have hx : 0 ≤ ds.getD (p + m) 0 ∧ ds.getD (p + m) 0 < 256 := hb _ (by rw [List.getD_eq_getElem?_getD, List.getElem?_eq_getElem (by omega)]; exact List.getElem_mem _)
  obtain ⟨x, hxe⟩ : ∃ x, ds.getD (p + m) 0 = x := ⟨_, rfl⟩
  rw [e1, hxe]
  rw [hxe] at hx
  unfold Lib.hasSuffix Lib.bytesOf
  have e2 : (UInt8.ofNat y.toNat == UInt8.ofNat x.toNat) = decide (x = y) := by
    by_cases h : x = y
    · subst h; simp
    · rw [decide_eq_false h]
      rw [beq_eq_false_iff_ne]
      intro h2
      have h3 := congrArg UInt8.toNat h2
      simp at h3
      omega
  simp [List.isSuffixOf, List.isPrefixOf, e2]

def trimLen (ds : List Int) (p m : Nat) (y : Int) : Nat := if 0 < m ∧ ds.getD (p + (m - 1)) 0 = y then m - 1 else m

theorem trim_call (W : World) (U r c b2 m p : Nat) (ds : List Int) (y : Int) (hb : Bytes ds) (hl : Line W U r m ds p) (hp : p + m ≤ ds.length) (hmc : m ≤ c) (hm : m ≤ 1048576) (hy : 0 ≤ y ∧ y < 256) (h2 : W.cell? ⟨b2, 0, none⟩ = some (.int .u8 y)) :
    Calls Tryd.prog 22 #[.slice (some ⟨U, r, none⟩) m c, .slice (some ⟨b2, 0, none⟩) 1 1] W fun e W' => e = .returned (.slice (some ⟨U, r, none⟩) (trimLen ds p m y) c) ∧ W' = W := by
  refine Calls.mono (Tryd.bytes_TrimSuffix U r m c b2 0 1 1 ((ds.drop p).take m) [y] W (by rw [List.length_take, List.length_drop]; omega) rfl hmc (by omega) ?_ ?_) ?_
  · intro i hi
    rw [hl i hi, List.getD_eq_getElem?_getD, List.getD_eq_getElem?_getD, List.getElem?_take, if_pos hi, List.getElem?_drop]
  · intro i hi
    obtain rfl : i = 0 := by omega
    exact h2
  · rintro e W' ⟨rfl, rfl⟩
    refine ⟨?_, rfl⟩
    unfold Lib.bytesTrimSuffix trimLen Lib.sliceTo
    cases m with
    | zero => simp [Lib.hasSuffix, Lib.bytesOf, List.isSuffixOf]
    | succ m =>
      rw [suf_last ds hb p m y hp hy]
      obtain ⟨x, hx⟩ : ∃ x, ds.getD (p + m) 0 = x := ⟨_, rfl⟩
      rw [show m + 1 - 1 = m by omega, hx]
      by_cases h : x = y <;> simp [h]

theorem Rd.below {W W' : World} {C B U R : Nat} {sa : Option Addr} {ds : List Int} {p k r : Nat} {ev : Value} (h : Rd W C B U R sa ds p k r ev) (hb : Below W.heap.size W W') : Rd W' C B U R sa ds p k r ev := by
  obtain ⟨a, b, lb, lr, pr, cur, st, c, d⟩ := h
  exact ⟨a, b, lb, lr, pr, cur, ⟨(hb.block _ st.hB.lt).trans st.hB, (hb.block _ st.hR.lt).trans st.hR, (hb.block _ st.hU.lt).trans st.hU, st.len, st.BU, st.BR, st.RU⟩, c, d⟩

/-- What readLine hands back for a line: the bytes xs in a row of their own; the reader stands at q. -/
def LineOut (C B U R : Nat) (sa : Option Addr) (ds : List Int) (q : Nat) (xs : List Int) (W : World) (e : Ending) (W' : World) : Prop :=
  ∃ v b k r, e = .returned (.tuple #[v, .nilIface]) ∧ Rd W' C B U R sa ds q k r .nilIface ∧ Keep (Three B U R) W W' ∧ W.heap.size ≤ b ∧ W'.ownsRow b 5 1 v xs.length (xs.map (Value.int .u8))
end Go.Proofs.Qxb6612819aDoor
