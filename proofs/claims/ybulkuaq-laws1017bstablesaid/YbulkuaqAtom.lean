import Derived.Test.YbulkuaqRows
import Derived.WalkKit
import Derived.WalkLawsBesides
import Derived.Laws.LoneSync
import Derived.Laws.Pointers
import Derived.Deep.RegionWith
import Derived.RegionCalls
namespace Go.Proofs.Ybulkuaq
open Go.RowKit
set_option linter.unusedVariables false

theorem b32_true (w : World) : Calls Yba.prog 11 #[.bool true] w fun e w' => e = .returned (.int .u32 1) ∧ w' = w := by
  go_enter Yba.func11, Yba.ntmps11
  go_wp2
  go_ret
  exact ⟨rfl, rfl⟩

theorem load_any (b off : Nat) (v : Int) (w : World) (h0 : w.cell? ⟨b, off, none⟩ = some (.int .u32 v)) :
    Calls Yba.prog 9 #[.pointer (some ⟨b, off, none⟩)] w fun e w' => e = .returned (.bool (v != 0)) ∧ w' = w := by
  have hl := run_call_load (P := Yba.prog) Yba.func12 (by kernel_rfl) (by kernel_rfl) (by kernel_rfl) .u32 (by kernel_rfl) h0
  go_enter Yba.func9, Yba.ntmps9
  go_wp2
  go_ret
  exact ⟨rfl, rfl⟩

theorem store_true (b off : Nat) (v : Int) (w : World) (h0 : w.cell? ⟨b, off, none⟩ = some (.int .u32 v)) (f0 : w.frozen? ⟨b, off, none⟩ = false) :
    Calls Yba.prog 7 #[.pointer (some ⟨b, off, none⟩), .bool true] w fun e w' => e = .returned (.tuple #[]) ∧ w' = (w.setCell ⟨b, off, none⟩ (.int .u32 1)).drew := by
  have hs := run_call_store (P := Yba.prog) (w := w.drew) (k := .u32) (y := 1) Yba.func10 (by kernel_rfl) (by kernel_rfl) (by kernel_rfl) (by kernel_rfl) (a := ⟨b, off, none⟩) h0 f0
  go_enter Yba.func7, Yba.ntmps7
  go_wp2
  go_region_with (go_at_call 11; refine (b32_true _).mono ?_; rintro e w1 ⟨rfl, rfl⟩)
  go_wp2
  go_end0
  exact ⟨rfl, rfl⟩

theorem n_any (b off : Nat) (n : Int) (w : World) (h0 : w.cell? ⟨b, off + 1, none⟩ = some (.int .i64 n)) :
    Calls Yba.prog 8 #[.pointer (some ⟨b, off, none⟩)] w fun e w' => e = .returned (.int .i64 n) ∧ w' = w := by
  go_enter Yba.func8, Yba.ntmps8
  go_wp2
  go_ret
  exact ⟨rfl, rfl⟩

theorem frz {w : World} {g : Nat} {cs : Array Value} {T : TypeId} {j : Nat} (h : w.heap[g]? = some (.cells cs T (0, 0))) : w.frozen? ⟨g, j, none⟩ = false := by simp [World.frozen?, h]

theorem cellAt (w : World) (n v : Int) (k : Nat) : ((w.alloc (Obj.cells #[Value.pointer none, Value.int IntKind.i64 n, Value.int IntKind.u32 v] 50)).drewN k).cell? ⟨w.heap.size, 1, none⟩ = some (.int .i64 n) ∧
    ((w.alloc (Obj.cells #[Value.pointer none, Value.int IntKind.i64 n, Value.int IntKind.u32 v] 50)).drewN k).cell? ⟨w.heap.size, 2, none⟩ = some (.int .u32 v) := by
  have h : ((w.alloc (Obj.cells #[Value.pointer none, Value.int IntKind.i64 n, Value.int IntKind.u32 v] 50)).drewN k).heap[w.heap.size]? = _ := heap_alloc_new w _
  exact ⟨(cell_of_row _ _ 1 _ 50 (0, 0) h).trans rfl, (cell_of_row _ _ 2 _ 50 (0, 0) h).trans rfl⟩

set_option maxHeartbeats 1600000 in
set_option maxRecDepth 100000 in
theorem stable_false (n : Int) (w : World) : Calls Yba.prog 5 #[.int .i64 n, .bool false] w fun e w' => e = .returned (.bool true) ∧ Grown w w' := by
  have c0 := cellAt w n 0 0
  have hA := n_any w.heap.size 0 n _ c0.1
  have hL := load_any w.heap.size 2 0 _ c0.2
  clear c0
  go_enter Yba.func5, Yba.ntmps5
  go_wp2_with (first | (go_at_call 8; refine hA.mono ?_; rintro e w' ⟨rfl, rfl⟩) | (go_at_call 9; refine hL.mono ?_; rintro e w' ⟨rfl, rfl⟩))
  go_ret
  exact ⟨rfl, by repeat (first | exact Grown.refl _ | apply Grown.drew | apply Grown.alloc)⟩

set_option maxHeartbeats 1600000 in
set_option maxRecDepth 100000 in
theorem stable_true (n : Int) (w : World) : Calls Yba.prog 5 #[.int .i64 n, .bool true] w fun e w' => e = .returned (.bool true) ∧ Grown w w' := by
  have c0 := cellAt w n 0 0
  have c1 := cellAt w n 1 1
  have hS := store_true w.heap.size 2 0 (w.alloc (Obj.cells #[Value.pointer none, Value.int IntKind.i64 n, Value.int IntKind.u32 0] 50)) c0.2 (frz (heap_alloc_new w _))
  have hA := n_any w.heap.size 0 n (w.alloc (Obj.cells #[Value.pointer none, Value.int IntKind.i64 n, Value.int IntKind.u32 1] 50)).drew c1.1
  have hL := load_any w.heap.size 2 1 (w.alloc (Obj.cells #[Value.pointer none, Value.int IntKind.i64 n, Value.int IntKind.u32 1] 50)).drew c1.2
  clear c0 c1
  go_enter Yba.func5, Yba.ntmps5
  go_wp2_with (first | (go_at_call 7; refine hS.mono ?_; rintro e w' ⟨rfl, rfl⟩) | (go_at_call 8; refine hA.mono ?_; rintro e w' ⟨rfl, rfl⟩) | (go_at_call 9; refine hL.mono ?_; rintro e w' ⟨rfl, rfl⟩))
  go_ret
  exact ⟨rfl, by repeat (first | exact Grown.refl _ | apply Grown.drew | apply Grown.alloc)⟩

end Go.Proofs.Ybulkuaq
