import Derived.Test.YbulktzaFmtVec
namespace Go.Proofs.YbulktzaFmt
open Go.RowKit
set_option linter.unusedVariables false

set_option maxHeartbeats 1600000 in
set_option maxRecDepth 100000 in
theorem ts_any (g o n c x : Nat) (hx : x < 18446744073709551616) (zs : List Nat) (hz : ∀ z ∈ zs, z < 18446744073709551616) (hzl : zs.length ≤ 1024) (hn : n = (Lib.uvarint x).length + ((Lib.uvarint zs.length).length + (vars zs).length)) (hnc : n ≤ c) (hm : c ≤ maxLen) (w : World) (hg : g < w.heap.size) (hl : Lies w g o (Lib.uvarint x ++ (Lib.uvarint zs.length ++ vars zs))) :
    Calls Ybaf.prog 17 #[.slice (some ⟨g, o, none⟩) n c] w fun e w' => ∃ o1 c1, e = .returned (.tuple #[.int .u64 x, .agg #[.int .i64 zs.length, .slice (some ⟨g, o1, none⟩) (vars zs).length c1], .nilIface]) ∧ Lies w' g o1 (vars zs) ∧ (vars zs).length ≤ c1 ∧ c1 ≤ maxLen ∧ w.grownBy w' none := by
  have hvl := vars_len zs hz
  have hLl := Lib.uvarint_length64 (x := zs.length) (by omega)
  have hLp := Lib.uvarint_pos zs.length
  have hXl := Lib.uvarint_length64 hx
  have hlL := hl.left
  have hlR := hl.right
  obtain ⟨L, hL⟩ : ∃ L, L = (Lib.uvarint x).length := ⟨_, rfl⟩
  obtain ⟨M, hM⟩ : ∃ M, M = (vars zs).length := ⟨_, rfl⟩
  have hR := fun W hlW => read_any g o n c x hx (by omega) hnc hm W hlW
  have hC := vector_any g (o + L) (n - L) (c - L) zs hz hzl (by omega) (by omega) (by unfold maxLen at hm ⊢; omega)
  rw [← hL] at hn hlR hR hXl
  rw [← hM] at hC hvl ⊢
  have hcL : c ≠ L := by omega
  have hn1 : L ≤ n := by omega
  have hn2 : n ≤ 20000 := by omega
  have HC := hid hC
  have HR := hid hR
  unfold maxLen at hm
  clear hn hL hM hl hC hR hLl hLp
  go_enter Ybaf.func17, Ybaf.ntmps17
  go_wp2_with fail
  refine (HR.out _ ?_).mono ?_
  · exact hlL.same (Below.heap_alloc w _ g hg)
  rintro e w1 ⟨o1, q, rfl, ho1, rfl⟩
  obtain rfl := ho1 hcL
  clear hlL HR ho1
  go_wp2_with fail
  refine (HC.out _ ?_ ?_).mono ?_
  · simp; omega
  · exact hlR.same (Below.heap_alloc w _ g hg)
  rintro e w2 ⟨o1, c1, o2, c2, rfl, hlies, hMc, hcm, hgb⟩
  have hblk : w2.heap[w.heap.size]? = some (.cells #[.int .i64 0, .slice none 0 0] 49 (0, 0)) := by
    rw [hgb.block w.heap.size (by simp) (by simp)]
    exact heap_alloc_new w _
  obtain ⟨hq0, hf0⟩ := blk_cells hblk 0 _ rfl
  obtain ⟨hq1, hf1⟩ := blk_cells hblk 1 _ rfl
  have hsz : w.heap.size < w2.heap.size := by have := hgb.size; simp at this; omega
  have HMc := hid hMc
  have HCm := hid hcm
  have HL := hid hlies
  clear hblk HC hlR hMc hcm hlies
  go_wp2_with (go_at_call 27; refine (end_any _ _ _).mono ?_; rintro e w3 ⟨rfl, rfl⟩)
  go_region
  go_wp2
  have hW : w.grownBy (((w2.setCell ⟨w.heap.size, 0, none⟩ (Value.int IntKind.i64 zs.length)).setCell ⟨w.heap.size, 1, none⟩ (Value.slice (some ⟨g, o1, none⟩) M c1)).alloc (Obj.cells #[Value.int IntKind.i64 zs.length, Value.slice (some ⟨g, o1, none⟩) M c1] 49)).drew none :=
    gb_trans (gb_alloc (gb_setCell (gb_setCell (gb_trans (gb_alloc_drewN w _ q none) hgb) _ (Nat.le_refl _) _) _ (Nat.le_refl _) _) _) (gb_drewN _ 1 none)
  have hg2 : g < w2.heap.size := by omega
  have hL2 : Lies (((w2.setCell ⟨w.heap.size, 0, none⟩ (Value.int IntKind.i64 zs.length)).setCell ⟨w.heap.size, 1, none⟩ (Value.slice (some ⟨g, o1, none⟩) M c1)).alloc (Obj.cells #[Value.int IntKind.i64 zs.length, Value.slice (some ⟨g, o1, none⟩) M c1] 49)).drew g o1 (vars zs) := by
    refine HL.out.same ?_
    show ((((w2.setCell ⟨w.heap.size, 0, none⟩ (Value.int IntKind.i64 zs.length)).setCell ⟨w.heap.size, 1, none⟩ (Value.slice (some ⟨g, o1, none⟩) M c1)).alloc _)).heap[g]? = _
    rw [Below.heap_alloc _ _ _ (by simp [World.setCell]; exact hg2), Below.heap_setCell _ _ _ _ (by simp; omega), Below.heap_setCell _ _ _ _ (by simp; omega)]
  refine bodyPost_ret (v := .tuple #[.int .u64 x, .agg #[.int .i64 zs.length, .slice (some ⟨g, o1, none⟩) M c1], .nilIface]) ?_ rfl ⟨o1, c1, rfl, hL2, HMc.out, HCm.out, hW⟩
  simp [results, Ybaf.results17, go_sem, hq0, hq1, hsz]

end Go.Proofs.YbulktzaFmt
