/-
  scanNumber (19): it returns 'scanR s'. The two texts below (no sign; a sign) are one text at two places.
-/
import Derived.Test.Qxb6609053aScan
namespace Go.Proofs.Qxb6609053a
open Go.RowKit

/-- The datatypes by their numbers: 0: none, 1: integer, 2: decimal, 3: double, 4: boolean, else string. -/
def dtS : Nat → ByteArray
  | 0 => ⟨#[]⟩
  | 1 => ⟨#[104, 116, 116, 112, 58, 47, 47, 119, 119, 119, 46, 119, 51, 46, 111, 114, 103, 47, 50, 48, 48, 49, 47, 88, 77, 76, 83, 99, 104, 101, 109, 97, 35, 105, 110, 116, 101, 103, 101, 114]⟩
  | 2 => ⟨#[104, 116, 116, 112, 58, 47, 47, 119, 119, 119, 46, 119, 51, 46, 111, 114, 103, 47, 50, 48, 48, 49, 47, 88, 77, 76, 83, 99, 104, 101, 109, 97, 35, 100, 101, 99, 105, 109, 97, 108]⟩
  | 3 => ⟨#[104, 116, 116, 112, 58, 47, 47, 119, 119, 119, 46, 119, 51, 46, 111, 114, 103, 47, 50, 48, 48, 49, 47, 88, 77, 76, 83, 99, 104, 101, 109, 97, 35, 100, 111, 117, 98, 108, 101]⟩
  | 4 => ⟨#[104, 116, 116, 112, 58, 47, 47, 119, 119, 119, 46, 119, 51, 46, 111, 114, 103, 47, 50, 48, 48, 49, 47, 88, 77, 76, 83, 99, 104, 101, 109, 97, 35, 98, 111, 111, 108, 101, 97, 110]⟩
  | _ => ⟨#[104, 116, 116, 112, 58, 47, 47, 119, 119, 119, 46, 119, 51, 46, 111, 114, 103, 47, 50, 48, 48, 49, 47, 88, 77, 76, 83, 99, 104, 101, 109, 97, 35, 115, 116, 114, 105, 110, 103]⟩

def scanR (s : ByteArray) : Nat × Nat :=
  if (Pl.scanT ((txt s).drop (Pl.sgn (txt s)))).2 = 0 then (0, 0) else (Pl.sgn (txt s) + (Pl.scanT ((txt s).drop (Pl.sgn (txt s)))).1, (Pl.scanT ((txt s).drop (Pl.sgn (txt s)))).2)

theorem scanR_of {s : ByteArray} {n0 n k : Nat} (h0 : Pl.sgn (txt s) = n0) (h : Pl.scanT ((txt s).drop n0) = (n, k)) (hk : k ≠ 0) : scanR s = (n0 + n, k) := by
  unfold scanR; rw [h0, h, if_neg hk]
theorem scanR_none {s : ByteArray} {n0 : Nat} (h0 : Pl.sgn (txt s) = n0) (h : Pl.scanT ((txt s).drop n0) = (0, 0)) : scanR s = (0, 0) := by
  unfold scanR; rw [h0, h, if_pos rfl]

theorem ret_scan {X : Int} {N K : Nat} {d : ByteArray} {s : ByteArray} (h : scanR s = (N, K)) (hx : X = N) (hd : d = dtS K) :
    Ending.returned (.tuple #[.int .i64 X, .string d]) = .returned (.tuple #[.int .i64 ((scanR s).1 : Int), .string (dtS (scanR s).2)]) := by
  rw [h, hx, hd]

section
variable {t : List UInt8} {W F E : Nat}
theorem dt_yes (hW : Pl.digits t = W) (h : t[W]? = some 46) (hF : Pl.digits (t.drop (W + 1)) = F) (h0 : 0 < F) : Pl.dotted t = true := by
  unfold Pl.dotted; rw [hW, h, hF]; simp [h0]
theorem dt_exp (hW : Pl.digits t = W) (h : t[W]? = some 46) (h0 : 0 < W) (hE : Pl.expo (t.drop (W + 1)) = E) (h1 : 0 < E) : Pl.dotted t = true := by
  unfold Pl.dotted; rw [hW, h, hE]; simp [h0, h1]
theorem dt_no (hW : Pl.digits t = W) (hF : Pl.digits (t.drop (W + 1)) = 0) (hE : Pl.expo (t.drop (W + 1)) = E) (h1 : W = 0 ∨ E = 0) : Pl.dotted t = false := by
  unfold Pl.dotted; rw [hW, hF, hE]; rcases h1 with h | h <;> simp [h]
theorem dt_none (hW : Pl.digits t = W) (h : t[W]? ≠ some 46) : Pl.dotted t = false := by
  unfold Pl.dotted; rw [hW]
  have : (t[W]? == some 46) = false := by rw [beq_eq_false_iff_ne]; exact h
  rw [this, Bool.false_and]
theorem sc_zero (hW : Pl.digits t = 0) (hd : Pl.dotted t = false) : Pl.scanT t = (0, 0) := by
  unfold Pl.scanT; rw [hW, hd]; rfl
theorem sc_plain_e (hW : Pl.digits t = W) (h0 : 0 < W) (hd : Pl.dotted t = false) (hE : Pl.expo (t.drop W) = E) (h1 : 0 < E) : Pl.scanT t = (W + E, 3) := by
  have hz : (W == 0) = false := by rw [beq_eq_false_iff_ne]; omega
  have hu : Pl.upto t = W := by unfold Pl.upto; rw [hd, hW]; rfl
  unfold Pl.scanT; rw [hu, hW, hd, hE, hz, if_neg (by simp), if_pos h1]
theorem sc_plain (hW : Pl.digits t = W) (h0 : 0 < W) (hd : Pl.dotted t = false) (hE : Pl.expo (t.drop W) = 0) : Pl.scanT t = (W, 1) := by
  have hz : (W == 0) = false := by rw [beq_eq_false_iff_ne]; omega
  have hu : Pl.upto t = W := by unfold Pl.upto; rw [hd, hW]; rfl
  unfold Pl.scanT; rw [hu, hW, hd, hE, hz, if_neg (by simp), if_neg (by omega)]; rfl
theorem sc_dot_e (hW : Pl.digits t = W) (hF : Pl.digits (t.drop (W + 1)) = F) (hd : Pl.dotted t = true) (hE : Pl.expo (t.drop (W + 1 + F)) = E) (h1 : 0 < E) : Pl.scanT t = (W + 1 + F + E, 3) := by
  have hu : Pl.upto t = W + 1 + F := by unfold Pl.upto; rw [hd, hW, hF]; rfl
  unfold Pl.scanT; rw [hu, hd, hE, if_neg (by simp), if_pos h1]
theorem sc_dot (hW : Pl.digits t = W) (hF : Pl.digits (t.drop (W + 1)) = F) (hd : Pl.dotted t = true) (hE : Pl.expo (t.drop (W + 1 + F)) = 0) : Pl.scanT t = (W + 1 + F, 2) := by
  have hu : Pl.upto t = W + 1 + F := by unfold Pl.upto; rw [hd, hW, hF]; rfl
  unfold Pl.scanT; rw [hu, hd, hE, if_neg (by simp), if_neg (by omega)]; rfl
end

theorem byte46 {c : UInt8} (h : ((c.toNat : Int) == 46) = true) : c = 46 := by
  have h1 : (c.toNat : Int) = 46 := by simpa using h
  exact UInt8.toNat_inj.1 (by show c.toNat = 46; omega)
theorem byte46_ne {c : UInt8} (h : ((c.toNat : Int) == 46) = false) : c ≠ 46 := by
  intro e; subst e; simp at h

end Go.Proofs.Qxb6609053a
