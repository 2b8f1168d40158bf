/-
  The reader is made: ZZnewReader (8).
-/
import Derived.Test.Qxb6612819aDoorFull
import Derived.Deep.RegionHeld3
import Derived.Deep.OwnRows
namespace Go.Proofs.Qxb6612819aDoor
open Go.RowKit

theorem assert_run (a : Addr) (w : World) : (Instr.typeAssert (.iface 38 (.pointer (some a))) 41 25 true).run Tryd.prog w = .ok (.tuple #[.pointer none, .bool false]) w := by kernel_rfl

theorem make_run (C : Nat) (hC : C = 10000) (w : World) : (Instr.makeSlice 22 (.int .i64 10000) (.int .i64 10000)).run Tryd.prog w = .ok (.slice (some ⟨w.heap.size, 0, none⟩) C C) (w.alloc (.cells (madeCells #[.int .u8 0] C) 5)) := by
  subst hC
  exact run_make_row' (P := Tryd.prog) 22 5 (.int .u8 0) 1 Tryd.underlying22 (by kernel_rfl) rfl .i64 .i64 10000 (by decide) (by decide) w

/-- A new reader over the bytes ds: three new blocks. -/
def NewOut (C : Nat) (sa : Option Addr) (ds : List Int) (W : World) (e : Ending) (W' : World) : Prop :=
  ∃ B U R, e = .returned (.pointer (some ⟨B, 0, none⟩)) ∧ (∀ k, Three B U R k → W.heap.size ≤ k ∧ k < W'.heap.size) ∧ Below W.heap.size W W' ∧ Rd W' C B U R sa ds 0 0 0 .nilIface

theorem blk_new (w : World) (cs : Array Value) (t : TypeId) : Blk (w.alloc (.cells cs t)) w.heap.size cs t := (MapKept.heap_alloc w _).1
theorem Blk.alloc {W : World} {b : Nat} {cs : Array Value} {t : TypeId} (h : Blk W b cs t) (o : Obj) : Blk (W.alloc o) b cs t := (Below.heap_alloc W o b h.lt).trans h

theorem new_out (C : Nat) (sa : Option Addr) (ds : List Int) (W : World) :
    NewOut C sa ds W (.returned (.pointer (some ⟨W.heap.size + 1, 0, none⟩))) (((W.alloc (.cells #[.slice sa ds.length ds.length, .int .i64 0, .int .i64 (-1)] 47)).alloc
      (.cells #[.slice (some ⟨W.heap.size + 1 + 1, 0, none⟩) C C, .iface 38 (.pointer (some ⟨W.heap.size, 0, none⟩)), .int .i64 0, .int .i64 0, .nilIface, .int .i64 (-1), .int .i64 (-1)] 44)).alloc (.cells (madeCells #[.int .u8 0] C) 5)) := by
  have hl : (madeCells #[.int .u8 0] C).toList = List.replicate C (.int .u8 0) := toList_madeCells_one _ _
  refine ⟨W.heap.size + 1, W.heap.size + 2, W.heap.size, rfl, ?_, ?_, ⟨by omega, by omega, -1, -1, -1, List.replicate C (.int .u8 0), ⟨?_, ?_, ?_, List.length_replicate, by omega, by omega, by omega⟩, ?_, fun j hj => absurd hj (Nat.not_lt_zero _)⟩⟩
  · intro k hk
    simp only [World.size_alloc]
    rcases hk with rfl | rfl | rfl <;> omega
  · exact Below.alloc (Below.alloc (Below.alloc (Below.refl W.heap.size W) (Nat.le_refl _) _) (by rw [World.size_alloc]; omega) _) (by rw [World.size_alloc, World.size_alloc]; omega) _
  · have h1 := blk_new (W.alloc (.cells #[.slice sa ds.length ds.length, .int .i64 0, .int .i64 (-1)] 47)) #[.slice (some ⟨W.heap.size + 1 + 1, 0, none⟩) C C, .iface 38 (.pointer (some ⟨W.heap.size, 0, none⟩)), .int .i64 0, .int .i64 0, .nilIface, .int .i64 (-1), .int .i64 (-1)] 44
    rw [World.size_alloc] at h1
    exact h1.alloc _
  · exact Blk.alloc (Blk.alloc (blk_new W _ 47) _) _
  · have h1 := blk_new ((W.alloc (.cells #[.slice sa ds.length ds.length, .int .i64 0, .int .i64 (-1)] 47)).alloc
      (.cells #[.slice (some ⟨W.heap.size + 1 + 1, 0, none⟩) C C, .iface 38 (.pointer (some ⟨W.heap.size, 0, none⟩)), .int .i64 0, .int .i64 0, .nilIface, .int .i64 (-1), .int .i64 (-1)] 44)) (madeCells #[.int .u8 0] C) 5
    rw [World.size_alloc, World.size_alloc] at h1
    rw [← hl, Array.toArray_toList]
    exact h1
  · intro v hv
    rw [List.eq_of_mem_replicate hv]; rfl

set_option maxRecDepth 20000 in
set_option maxHeartbeats 2000000 in
theorem new_reader (C : Nat) (hC : C = 10000) (sa : Option Addr) (ds : List Int) (W : World) :
    Calls Tryd.prog 8 #[.slice sa ds.length ds.length] W (NewOut C sa ds W) := by
  have hta := assert_run
  have hmk := make_run C hC
  clear hC
  obtain ⟨N, hN⟩ : ∃ N, ds.length = N := ⟨_, rfl⟩
  have hout := new_out C sa ds W
  rw [hN] at hout ⊢
  have HO : Hid _ := hout
  clear hout hN
  go_enter Tryd.func8, Tryd.ntmps8
  go_wp2
  go_end0
  go_wp2
  go_ret
  exact HO.out
end Go.Proofs.Qxb6612819aDoor
