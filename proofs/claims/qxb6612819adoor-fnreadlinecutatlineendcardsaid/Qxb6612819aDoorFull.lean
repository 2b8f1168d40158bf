/-
  What a reader holds, in plain words; 'fill' said of that.
-/
import Derived.Test.Qxb6612819aDoorFill
namespace Go.Proofs.Qxb6612819aDoor
open Go.RowKit

/-- What the reader stands on: the source's bytes, the values of io.EOF and bufio.ErrBufferFull. -/
structure Env (W : World) (B U R : Nat) (sa : Option Addr) (ds : List Int) (ea fa : Addr) : Prop where
  src : ds = [] ∨ ∃ D, sa = some ⟨D, 0, none⟩ ∧ ¬ Three B U R D ∧ ∀ j, j < ds.length → W.cell? ⟨D, j, none⟩ = some (.int .u8 (ds.getD j 0))
  eof : W.cell? ⟨1, 0, none⟩ = some (.iface 65 (.pointer (some ea)))
  full : W.cell? ⟨0, 0, none⟩ = some (.iface 65 (.pointer (some fa)))
  n1 : ¬ Three B U R 1
  n0 : ¬ Three B U R 0
  size : ds.length ≤ 4194304

theorem Env.keep {W W' : World} {B U R : Nat} {sa : Option Addr} {ds : List Int} {ea fa : Addr} (h : Env W B U R sa ds ea fa) (k : Keep (Three B U R) W W') : Env W' B U R sa ds ea fa := by
  refine ⟨?_, k.cell h.eof h.n1, k.cell h.full h.n0, h.n1, h.n0, h.size⟩
  rcases h.src with h1 | ⟨D, h1, h2, h3⟩
  · exact .inl h1
  · exact .inr ⟨D, h1, h2, fun j hj => k.cell (h3 j hj) h2⟩

/-- The reader has handed out p bytes of the source; the next k lie in its buffer, from r on. -/
def Rd (W : World) (C B U R : Nat) (sa : Option Addr) (ds : List Int) (p k r : Nat) (ev : Value) : Prop :=
  r + k ≤ C ∧ p + k ≤ ds.length ∧ ∃ lb lr pr cur, St W C B U R sa ds.length r (r + k) (p + k) ev lb lr pr cur ∧ (∀ v ∈ cur, v.oneCell' = true) ∧ ∀ j, j < k → cur[r + j]? = some (iv (ds.getD (p + j) 0))

theorem splice_get {α : Type} (c : List α) (o : Nat) (d : List α) (j : Nat) (h : o + d.length ≤ c.length) : (splice c o d)[j]? = if j < o then c[j]? else if j < o + d.length then d[j - o]? else c[j]? := by
  have hl : (c.take o).length = o := by rw [List.length_take]; omega
  unfold splice
  rw [List.getElem?_append, hl]
  by_cases h1 : j < o
  · rw [if_pos h1, if_pos h1, List.getElem?_take, if_pos h1]
  · rw [if_neg h1, if_neg h1, List.getElem?_append]
    by_cases h2 : j < o + d.length
    · rw [if_pos h2, if_pos (by omega)]
    · rw [if_neg h2, if_neg (by omega), List.getElem?_drop]
      congr 1; omega
theorem splice_mem {α : Type} {c d : List α} {o : Nat} {v : α} (h : v ∈ splice c o d) : v ∈ c ∨ v ∈ d := by
  unfold splice at h
  simp only [List.mem_append] at h
  rcases h with h | h | h
  · exact .inl (List.mem_of_mem_take h)
  · exact .inr h
  · exact .inl (List.mem_of_mem_drop h)
theorem one_iv (l : List Int) : ∀ v ∈ l.map iv, v.oneCell' = true := by
  intro v hv
  obtain ⟨x, _, rfl⟩ := List.mem_map.1 hv
  rfl
theorem slid_get (cur : List Value) (ds : List Int) (C p k r : Nat) (hl : cur.length = C) (hk : r + k ≤ C) (hdat : ∀ j, j < k → cur[r + j]? = some (iv (ds.getD (p + j) 0))) :
    ∀ j, j < k → (splice cur 0 ((cur.drop r).take k))[j]? = some (iv (ds.getD (p + j) 0)) := by
  intro j hj
  have h1 : ((cur.drop r).take k).length = k := by rw [List.length_take, List.length_drop]; omega
  rw [splice_get _ _ _ _ (by omega), if_neg (by omega), if_pos (by omega), Nat.sub_zero, List.getElem?_take, if_pos hj, List.getElem?_drop]
  exact hdat j hj
theorem more_get (cur : List Value) (ds : List Int) (C p k n : Nat) (hl : cur.length = C) (hk : k + n ≤ C) (hp : p + k + n ≤ ds.length) (hdat : ∀ j, j < k → cur[j]? = some (iv (ds.getD (p + j) 0))) :
    ∀ j, j < k + n → (splice cur k (((ds.drop (p + k)).take n).map iv))[0 + j]? = some (iv (ds.getD (p + j) 0)) := by
  intro j hj
  have h1 : (((ds.drop (p + k)).take n).map iv).length = n := by rw [List.length_map, List.length_take, List.length_drop]; omega
  rw [Nat.zero_add, splice_get _ _ _ _ (by omega)]
  by_cases h2 : j < k
  · rw [if_pos h2]; exact hdat j h2
  · rw [if_neg h2, if_pos (by omega), List.getElem?_map, List.getElem?_take, if_pos (by omega), List.getElem?_drop, List.getD_eq_getElem?_getD, List.getElem?_eq_getElem (by omega), List.getElem?_eq_getElem (by omega)]
    have e : p + k + (j - k) = p + j := by omega
    simp [e]

/-- 'fill', where the source has more. -/
theorem fill_more (C B U R : Nat) (sa : Option Addr) (ds : List Int) (p k r : Nat) (ea fa : Addr) (W : World) (hC : C ≤ 10000) (E : Env W B U R sa ds ea fa) (h : Rd W C B U R sa ds p k r .nilIface) (hk : k < C) (hp : p + k < ds.length) :
    Calls Tryd.prog 27 #[.pointer (some ⟨B, 0, none⟩)] W fun e W' => e = .returned (.tuple #[]) ∧ Keep (Three B U R) W W' ∧ ∃ n, 0 < n ∧ Rd W' C B U R sa ds p (k + n) 0 .nilIface ∧ (p + (k + n) = ds.length ∨ k + n = C) := by
  obtain ⟨hrk, hpk, lb, lr, pr, cur, st, h1, hdat⟩ := h
  rcases E.src with hn | ⟨D, rfl, hD3, hD⟩
  · rw [hn] at hp; simp at hp
  have hDB : D ≠ B := fun e => hD3 (.inl e)
  have hDU : D ≠ U := fun e => hD3 (.inr (.inl e))
  have hDR : D ≠ R := fun e => hD3 (.inr (.inr e))
  obtain ⟨n, hn⟩ : ∃ n, n = Nat.min (ds.length - (p + k)) (C - k) := ⟨_, rfl⟩
  have hnn : n ≤ ds.length - (p + k) ∧ n ≤ C - k ∧ (n = ds.length - (p + k) ∨ n = C - k) := by
    refine ⟨hn ▸ Nat.min_le_left _ _, hn ▸ Nat.min_le_right _ _, ?_⟩
    rcases Nat.le_total (ds.length - (p + k)) (C - k) with hh | hh
    · exact .inl (hn.trans (Nat.min_eq_left hh))
    · exact .inr (hn.trans (Nat.min_eq_right hh))
  obtain ⟨a1, a2, a3⟩ := hnn
  rcases Nat.eq_zero_or_pos r with rfl | hr
  · rw [Nat.zero_add] at st
    refine (fill_some0 C B U R D ds.length k (p + k) n lb lr pr ds cur W hC E.size rfl hp hn hDU hDR hD st hk).mono ?_
    rintro e W' ⟨rfl, s', kp⟩
    refine ⟨rfl, kp, n, by omega, ⟨by omega, by omega, lb, lr, -1, _, ?_, ?_, more_get cur ds C p k n st.len (by omega) (by omega) (fun j hj => by have := hdat j hj; rwa [Nat.zero_add] at this)⟩, by omega⟩
    · rw [Nat.zero_add, ← Nat.add_assoc]; exact s'
    · exact fun v hv => (splice_mem hv).elim (h1 v) (one_iv _ v)
  · have e1 : r + k - r = k := by omega
    refine (fill_someS C B U R D ds.length r (r + k) (p + k) n lb lr pr ds cur W hC E.size rfl hp (by rw [e1]; exact hn) hDU hDR hDB hD st h1 hr (by omega) hrk).mono ?_
    rintro e W' ⟨rfl, s', kp⟩
    rw [e1] at s'
    have hl : (splice cur 0 ((cur.drop r).take k)).length = C := (splice_length _ _ _ (by rw [List.length_take, List.length_drop, st.len]; omega)).trans st.len
    refine ⟨rfl, kp, n, by omega, ⟨by omega, by omega, lb, lr, -1, _, ?_, ?_, more_get _ ds C p k n hl (by omega) (by omega) (slid_get cur ds C p k r st.len hrk hdat)⟩, by omega⟩
    · rw [Nat.zero_add, ← Nat.add_assoc]; exact s'
    · exact fun v hv => (splice_mem hv).elim (fun hv => (splice_mem hv).elim (h1 v) (fun hv => h1 v (List.mem_of_mem_drop (List.mem_of_mem_take hv)))) (one_iv _ v)

/-- 'fill', where the source is at its end. -/
theorem fill_end (C B U R : Nat) (sa : Option Addr) (ds : List Int) (p k r : Nat) (ea fa : Addr) (W : World) (hC : C ≤ 10000) (E : Env W B U R sa ds ea fa) (h : Rd W C B U R sa ds p k r .nilIface) (hk : k < C) (hp : p + k = ds.length) :
    Calls Tryd.prog 27 #[.pointer (some ⟨B, 0, none⟩)] W fun e W' => e = .returned (.tuple #[]) ∧ Keep (Three B U R) W W' ∧ Rd W' C B U R sa ds p k 0 (.iface 65 (.pointer (some ea))) := by
  obtain ⟨hrk, hpk, lb, lr, pr, cur, st, h1, hdat⟩ := h
  rw [hp] at st
  rcases Nat.eq_zero_or_pos r with rfl | hr
  · rw [Nat.zero_add] at st
    refine (fill_eof0 C B U R sa ds.length k lb lr pr ea cur W hC E.eof st hk).mono ?_
    rintro e W' ⟨rfl, s', kp⟩
    refine ⟨rfl, kp, ⟨by omega, hpk, lb, lr, pr, cur, ?_, h1, hdat⟩⟩
    rw [Nat.zero_add, hp]; exact s'
  · have e1 : r + k - r = k := by omega
    refine (fill_eofS C B U R sa ds.length r (r + k) lb lr pr ea cur W hC E.n1 E.eof st h1 hr (by omega) hrk).mono ?_
    rintro e W' ⟨rfl, s', kp⟩
    rw [e1] at s'
    refine ⟨rfl, kp, ⟨by omega, hpk, lb, lr, pr, splice cur 0 ((cur.drop r).take k), ?_, ?_, fun j hj => ?_⟩⟩
    · rw [Nat.zero_add, hp]; exact s'
    · exact fun v hv => (splice_mem hv).elim (h1 v) (fun hv => h1 v (List.mem_of_mem_drop (List.mem_of_mem_take hv)))
    · rw [Nat.zero_add]; exact slid_get cur ds C p k r st.len hrk hdat j hj
end Go.Proofs.Qxb6612819aDoor
