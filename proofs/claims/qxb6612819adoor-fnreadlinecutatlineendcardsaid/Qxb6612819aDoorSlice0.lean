/-
  What ReadSlice hands back, in plain words; the first LF among buffered bytes.
-/
import Derived.Test.Qxb6612819aDoorFull
import Derived.Test.Qxb6612819aDoorShelf
import Derived.Lib.IndexLaws
namespace Go.Proofs.Qxb6612819aDoor
open Go.RowKit

def NoLF (ds : List Int) (p m : Nat) : Prop := ∀ j, j < m → ds.getD (p + j) 0 ≠ 10
def Fst (ds : List Int) (p m : Nat) : Prop := 0 < m ∧ ds.getD (p + (m - 1)) 0 = 10 ∧ NoLF ds p (m - 1)
def Line (W : World) (U r m : Nat) (ds : List Int) (p : Nat) : Prop := ∀ j, j < m → W.cell? ⟨U, r + j, none⟩ = some (.int .u8 (ds.getD (p + j) 0))
/-- Every number of the source is a byte. -/
def Bytes (ds : List Int) : Prop := ∀ x ∈ ds, 0 ≤ x ∧ x < 256
def iErr (a : Addr) : Value := .iface 65 (.pointer (some a))

/-- What ReadSlice hands back. -/
def SliceOut (C B U R : Nat) (sa : Option Addr) (ds : List Int) (p : Nat) (ea fa : Addr) (W : World) (e : Ending) (W' : World) : Prop :=
  ∃ r m c k2 r2 ev, e = .returned (.tuple #[.slice (some ⟨U, r, none⟩) m c, ev]) ∧ m ≤ c ∧ c ≤ C ∧ Rd W' C B U R sa ds (p + m) k2 r2 .nilIface ∧ Keep (Three B U R) W W' ∧ Line W' U r m ds p ∧
    ((ev = .nilIface ∧ Fst ds p m) ∨ (ev = .iface 65 (.pointer (some fa)) ∧ m = C ∧ NoLF ds p m) ∨ (ev = .iface 65 (.pointer (some ea)) ∧ p + m = ds.length ∧ m < C ∧ NoLF ds p m))

theorem Rd.line {W : World} {C B U R : Nat} {sa : Option Addr} {ds : List Int} {p k r : Nat} {ev : Value} (h : Rd W C B U R sa ds p k r ev) : Line W U r k ds p := by
  obtain ⟨_, _, lb, lr, pr, cur, st, _, hdat⟩ := h
  intro j hj
  rw [st.hU.cell (r + j)]
  have := hdat j hj
  simpa [iv] using this

theorem toU8 {x : Int} (h : 0 ≤ x ∧ x < 256) (e : UInt8.ofNat x.toNat = (10 : Int).toNat.toUInt8) : x = 10 := by
  have h2 := congrArg UInt8.toNat e
  simp at h2
  omega

/-- bytes.IndexByte of the buffered bytes from s on: found at j, or not. -/
theorem index_fact (ds : List Int) (hb : Bytes ds) (p s k : Nat) (hs : s ≤ k) (hk : p + k ≤ ds.length) :
    (∃ j, s + j < k ∧ Lib.indexByte (Lib.bytesOf ((ds.drop (p + s)).take (k - s))) (10 : Int).toNat.toUInt8 = (j : Int) ∧ ds.getD (p + (s + j)) 0 = 10 ∧ ∀ i, i < j → ds.getD (p + (s + i)) 0 ≠ 10) ∨
    (Lib.indexByte (Lib.bytesOf ((ds.drop (p + s)).take (k - s))) (10 : Int).toNat.toUInt8 = -1 ∧ ∀ i, s + i < k → ds.getD (p + (s + i)) 0 ≠ 10) := by
  have hget : ∀ i, s + i < k → (Lib.bytesOf ((ds.drop (p + s)).take (k - s)))[i]? = some (UInt8.ofNat (ds.getD (p + (s + i)) 0).toNat) := by
    intro i hi
    unfold Lib.bytesOf
    rw [List.getElem?_map, List.getElem?_take, if_pos (by omega), List.getElem?_drop, List.getD_eq_getElem?_getD, List.getElem?_eq_getElem (by omega), List.getElem?_eq_getElem (by omega)]
    have e : p + s + i = p + (s + i) := by omega
    simp [e]
  have hno : ∀ i, s + i < k → (Lib.bytesOf ((ds.drop (p + s)).take (k - s)))[i]? ≠ some (10 : Int).toNat.toUInt8 → ds.getD (p + (s + i)) 0 ≠ 10 := by
    intro i hi h1 h2
    rw [hget i hi, h2] at h1
    exact h1 rfl
  have hyes : ∀ i, s + i < k → (Lib.bytesOf ((ds.drop (p + s)).take (k - s)))[i]? = some (10 : Int).toNat.toUInt8 → ds.getD (p + (s + i)) 0 = 10 := by
    intro i hi h1
    rw [hget i hi] at h1
    have hm : ds.getD (p + (s + i)) 0 ∈ ds := by
      rw [List.getD_eq_getElem?_getD, List.getElem?_eq_getElem (by omega)]
      exact List.getElem_mem _
    exact toU8 (hb _ hm) (Option.some.inj h1)
  have hge := Lib.indexByte_ge (Lib.bytesOf ((ds.drop (p + s)).take (k - s))) (10 : Int).toNat.toUInt8
  by_cases h : Lib.indexByte (Lib.bytesOf ((ds.drop (p + s)).take (k - s))) (10 : Int).toNat.toUInt8 = -1
  · exact .inr ⟨h, fun i hi => hno i hi (Lib.indexByte_none h i)⟩
  · obtain ⟨j, hj⟩ : ∃ j : Nat, Lib.indexByte (Lib.bytesOf ((ds.drop (p + s)).take (k - s))) (10 : Int).toNat.toUInt8 = (j : Int) := ⟨_, (Int.toNat_of_nonneg (by omega)).symm⟩
    obtain ⟨h1, h2⟩ := Lib.indexByte_some hj
    have hlt : s + j < k := by
      have h3 := (List.getElem?_eq_some_iff.1 h1).1
      have h4 : (Lib.bytesOf ((ds.drop (p + s)).take (k - s))).length = k - s := by
        unfold Lib.bytesOf; rw [List.length_map, List.length_take, List.length_drop]; omega
      omega
    exact .inl ⟨j, hlt, hj, hyes j hlt h1, fun i hi => hno i (by omega) (h2 i hi)⟩

/-- The call of bytes.IndexByte on buf[x:w], x = r + s, w = r + k. -/
theorem index_call (W : World) (C U r s k x w : Nat) (ds : List Int) (p : Nat) (hs : s ≤ k) (hk : p + k ≤ ds.length) (hx : r + s = x) (hw : r + k = w) (hC : w ≤ C) (hl : Line W U r k ds p) :
    Calls Tryd.prog 24 #[.slice (if C = x then some ⟨U, 0, none⟩ else some ⟨U, x, none⟩) (w - x) (C - x), .int .u8 10] W fun e W' => e = .returned (.int .i64 (Lib.indexByte (Lib.bytesOf ((ds.drop (p + s)).take (k - s))) (10 : Int).toNat.toUInt8)) ∧ W' = W := by
  have e1 : w - x = k - s := by omega
  have hlen : ((ds.drop (p + s)).take (k - s)).length = k - s := by rw [List.length_take, List.length_drop]; omega
  rw [e1]
  by_cases hc : C = x
  · rw [if_pos hc]
    refine Tryd.bytes_IndexByte U 0 (k - s) (C - x) _ 10 W hlen ?_
    intro i hi; omega
  · rw [if_neg hc]
    refine Tryd.bytes_IndexByte U x (k - s) (C - x) _ 10 W hlen ?_
    intro i hi
    have h := hl (s + i) (by omega)
    rw [← Nat.add_assoc, hx] at h
    rw [h, List.getD_eq_getElem?_getD, List.getD_eq_getElem?_getD, List.getElem?_take, if_pos (by omega), List.getElem?_drop, Nat.add_assoc]
end Go.Proofs.Qxb6612819aDoor
