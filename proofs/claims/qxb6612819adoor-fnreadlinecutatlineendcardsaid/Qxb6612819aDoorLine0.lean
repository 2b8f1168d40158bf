/-
  ReadSlice where the line's length is known; the two sentinels.
-/
import Derived.Test.Qxb6612819aDoorSlice
import Derived.LaidEql
namespace Go.Proofs.Qxb6612819aDoor
open Go.RowKit

/-- The line that begins at p is L bytes long: it ends at an LF or at the end of the source. -/
structure IsLine (ds : List Int) (p L : Nat) : Prop where
  no : NoLF ds p L
  le : p + L ≤ ds.length
  stop : p + L = ds.length ∨ ds.getD (p + L) 0 = 10

def SliceAt (C B U R : Nat) (sa : Option Addr) (ds : List Int) (p m : Nat) (ev : Value) (W : World) (e : Ending) (W' : World) : Prop :=
  ∃ r c k2 r2, e = .returned (.tuple #[.slice (some ⟨U, r, none⟩) m c, ev]) ∧ m ≤ c ∧ c ≤ C ∧ Rd W' C B U R sa ds (p + m) k2 r2 .nilIface ∧ Keep (Three B U R) W W' ∧ Line W' U r m ds p

section
variable (C B U R : Nat) (sa : Option Addr) (ds : List Int) (p k0 r0 L : Nat) (ea fa : Addr) (W : World) (hC : C ≤ 10000) (hC0 : 0 < C) (hb : Bytes ds) (E : Env W B U R sa ds ea fa) (h : Rd W C B U R sa ds p k0 r0 .nilIface) (hL : IsLine ds p L)
include hC hC0 hb E h hL

theorem slice_full (hl : C ≤ L) : Calls Tryd.prog 20 #[.pointer (some ⟨B, 0, none⟩), .int .u8 10] W (SliceAt C B U R sa ds p C (.iface 65 (.pointer (some fa))) W) := by
  refine Calls.mono (read_slice C B U R sa ds p k0 r0 ea fa W hC hC0 hb E h) ?_
  rintro _ W1 ⟨r, m, c, k2, r2, ev, rfl, hmc, hcC, hrd, hkp, hln, hcase⟩
  rcases hcase with ⟨rfl, g1, g2, g3⟩ | ⟨rfl, rfl, g⟩ | ⟨rfl, g1, g2, g3⟩
  · exact absurd g2 (hL.no (m - 1) (by omega))
  · exact ⟨r, c, k2, r2, rfl, hmc, hcC, hrd, hkp, hln⟩
  · have := hL.le; omega
theorem slice_line (hl : L < C) (hn : p + L < ds.length) : Calls Tryd.prog 20 #[.pointer (some ⟨B, 0, none⟩), .int .u8 10] W (SliceAt C B U R sa ds p (L + 1) .nilIface W) := by
  have h10 : ds.getD (p + L) 0 = 10 := hL.stop.elim (fun e => by omega) id
  refine Calls.mono (read_slice C B U R sa ds p k0 r0 ea fa W hC hC0 hb E h) ?_
  rintro _ W1 ⟨r, m, c, k2, r2, ev, rfl, hmc, hcC, hrd, hkp, hln, hcase⟩
  rcases hcase with ⟨rfl, g1, g2, g3⟩ | ⟨rfl, rfl, g⟩ | ⟨rfl, g1, g2, g3⟩
  · have e1 : ¬ m - 1 < L := fun hh => hL.no _ hh g2
    have e2 : ¬ L < m - 1 := fun hh => g3 _ hh h10
    obtain rfl : m = L + 1 := by omega
    exact ⟨r, c, k2, r2, rfl, hmc, hcC, hrd, hkp, hln⟩
  · exact absurd h10 (g L hl)
  · exact absurd h10 (g3 L (by omega))
theorem slice_eof (hl : L < C) (hn : p + L = ds.length) : Calls Tryd.prog 20 #[.pointer (some ⟨B, 0, none⟩), .int .u8 10] W (SliceAt C B U R sa ds p L (.iface 65 (.pointer (some ea))) W) := by
  refine Calls.mono (read_slice C B U R sa ds p k0 r0 ea fa W hC hC0 hb E h) ?_
  rintro _ W1 ⟨r, m, c, k2, r2, ev, rfl, hmc, hcC, hrd, hkp, hln, hcase⟩
  have hle := hrd.2.1
  rcases hcase with ⟨rfl, g1, g2, g3⟩ | ⟨rfl, rfl, g⟩ | ⟨rfl, g1, g2, g3⟩
  · exact absurd g2 (hL.no (m - 1) (by omega))
  · omega
  · obtain rfl : m = L := by omega
    exact ⟨r, c, k2, r2, rfl, hmc, hcC, hrd, hkp, hln⟩
end

/-- The two sentinels are two pointers at cells that the reader does not write. -/
structure Errs (W : World) (B U R : Nat) (ea fa : Addr) : Prop where
  e1 : ∃ ca ta, Blk W ea.block ca ta
  f1 : ∃ ca ta, Blk W fa.block ca ta
  ne : ea ≠ fa
  ne1 : ¬ Three B U R ea.block
  nf1 : ¬ Three B U R fa.block
theorem Errs.keep {W W' : World} {B U R : Nat} {ea fa : Addr} (h : Errs W B U R ea fa) (k : Keep (Three B U R) W W') : Errs W' B U R ea fa := by
  obtain ⟨ca, ta, h1⟩ := h.e1
  obtain ⟨cf, tf, h2⟩ := h.f1
  exact ⟨⟨ca, ta, k.blk h1 h.ne1⟩, ⟨cf, tf, k.blk h2 h.nf1⟩, h.ne, h.ne1, h.nf1⟩

theorem eql_same (a : Addr) (w : World) : (binOp .eql 28 (.iface 65 (.pointer (some a))) (.iface 65 (.pointer (some a)))).run Tryd.prog w = .ok (.bool true) w :=
  run_eql_iface_ptr_same w a (P := Tryd.prog) (ti := 28) (tp := 65) Tryd.underlying28 Tryd.underlying65 rfl rfl rfl
theorem eql_other {a b : Addr} {w : World} (hne : a ≠ b) (ha : ∃ ca ta, Blk w a.block ca ta) (hb : ∃ ca ta, Blk w b.block ca ta) : (binOp .eql 28 (.iface 65 (.pointer (some a))) (.iface 65 (.pointer (some b)))).run Tryd.prog w = .ok (.bool false) w := by
  obtain ⟨ca, ta, ha⟩ := ha
  obtain ⟨cb, tb, hb⟩ := hb
  exact run_eql_iface_ptr_other w (P := Tryd.prog) (ti := 28) (tp := 65) Tryd.underlying28 Tryd.underlying65 rfl rfl rfl (by decide) hne ha hb
theorem eql_nil (a : Addr) (w : World) : (binOp .eql 28 .nilIface (.iface 65 (.pointer (some a)))).run Tryd.prog w = .ok (.bool false) w :=
  run_eql_iface_nil_left w (P := Tryd.prog) 65 _ Tryd.underlying28
end Go.Proofs.Qxb6612819aDoor
