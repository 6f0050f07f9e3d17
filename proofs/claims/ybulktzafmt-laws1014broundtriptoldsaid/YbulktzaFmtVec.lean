import Derived.Test.YbulktzaFmtRead
namespace Go.Proofs.YbulktzaFmt
open Go.RowKit
set_option linter.unusedVariables false

theorem hid {p : Prop} (h : p) : Hid p := h

theorem gb_setCell {w w2 : World} {row : Option Nat} (h : w.grownBy w2 row) (a : Addr) (ha : w.heap.size ≤ a.block) (u : Value) : w.grownBy (w2.setCell a u) row :=
  ⟨h.os, h.tape, h.output, by simp [World.setCell]; exact h.size, fun k hk hr => (Below.heap_setCell w2 a u k (by omega)).trans (h.block k hk hr)⟩

theorem gb_alloc {w w2 : World} {row : Option Nat} (h : w.grownBy w2 row) (o : Obj) : w.grownBy (w2.alloc o) row :=
  ⟨h.os, h.tape, h.output, by have := h.size; simp; omega, fun k hk hr => (Below.heap_alloc w2 o k (Nat.lt_of_lt_of_le hk h.size)).trans (h.block k hk hr)⟩

theorem end_any (a : Option Addr) (c : Nat) (w : World) :
    Calls Ybaf.prog 27 #[.slice a 0 c] w fun e w' => e = .returned .nilIface ∧ w' = w := by
  go_enter Ybaf.func27, Ybaf.ntmps27
  go_wp2
  go_ret
  exact ⟨rfl, rfl⟩

theorem blk_cells {w : World} {g : Nat} {cs : Array Value} {T : TypeId} (h : w.heap[g]? = some (.cells cs T (0, 0))) (j : Nat) (v : Value) (hj : cs[j]? = some v) :
    w.cell? ⟨g, j, none⟩ = some v ∧ w.frozen? ⟨g, j, none⟩ = false := by
  refine ⟨?_, ?_⟩
  · rw [cell_of_row w g j cs T (0, 0) h]; exact hj
  · simp [World.frozen?, h]

set_option maxHeartbeats 1600000 in
set_option maxRecDepth 100000 in
theorem vector_any (g o n c : Nat) (zs : List Nat) (hz : ∀ z ∈ zs, z < 18446744073709551616) (hzl : zs.length ≤ 1024) (hn : n = (Lib.uvarint zs.length).length + (vars zs).length) (hnc : n ≤ c) (hm : c ≤ maxLen) (w : World) (hg : g < w.heap.size) (hl : Lies w g o (Lib.uvarint zs.length ++ vars zs)) :
    Calls Ybaf.prog 26 #[.slice (some ⟨g, o, none⟩) n c] w fun e w' => ∃ o1 c1 o2 c2, e = .returned (.tuple #[.agg #[.int .i64 zs.length, .slice (some ⟨g, o1, none⟩) (vars zs).length c1], .slice (some ⟨g, o2, none⟩) 0 c2, .nilIface]) ∧ Lies w' g o1 (vars zs) ∧ (vars zs).length ≤ c1 ∧ c1 ≤ maxLen ∧ w.grownBy w' none := by
  have hvl := vars_len zs hz
  have hvg := vars_ge zs
  have hLl := Lib.uvarint_length64 (x := zs.length) (by omega)
  have hlL := hl.left
  have hlR := hl.right
  obtain ⟨L, hL⟩ : ∃ L, L = (Lib.uvarint zs.length).length := ⟨_, rfl⟩
  obtain ⟨M, hM⟩ : ∃ M, M = (vars zs).length := ⟨_, rfl⟩
  have hR := fun W hlW => read_any g o n c zs.length (by omega) (by omega) hnc hm W hlW
  have hC := fun o1 => counts_any g o1 (n - L) (c - L) zs hz hzl (by omega) (by omega) (by unfold maxLen at hm ⊢; omega)
  rw [← hL] at hLl hn hlR hR
  rw [← hM] at hvl hvg hn ⊢
  have HN : Hid (n = L + M) := hn
  have HM : Hid (M = (vars zs).length) := hM
  have hn1 : L ≤ n := by omega
  have hn2 : n ≤ 20000 := by omega
  have HC := hid hC
  have HR := hid hR
  unfold maxLen at hm
  clear hn hL hM hl hC hR
  go_enter Ybaf.func26, Ybaf.ntmps26
  go_wp2_with fail
  refine (HR.out _ ?_).mono ?_
  · exact hlL.same (Below.heap_alloc w _ g hg)
  rintro e w1 ⟨o1, q, rfl, ho1, rfl⟩
  have hlR1 : Lies w g o1 (vars zs) := by
    by_cases hcL : c = L
    · intro j hj
      rw [← HM.out] at hj
      have := HN.out
      omega
    · rw [ho1 hcL]; exact hlR
  have hnL : n - L = M := by have := HN.out; omega
  rw [hnL] at HC ⊢
  clear hlR hlL HR ho1 hnL
  have hzz : ¬ (M : Int) < zs.length := by omega
  go_wp2_with fail
  refine (HC.out o1 _ ?_ ?_).mono ?_
  · simp; omega
  · exact hlR1.same (Below.heap_alloc w _ g hg)
  rintro e w2 ⟨o2, rfl, hgb⟩
  have hblk : w2.heap[w.heap.size]? = some (.cells #[.int .i64 0, .slice none 0 0] 49 (0, 0)) := by
    rw [hgb.block w.heap.size (by simp) (by simp)]
    exact heap_alloc_new w _
  obtain ⟨hq0, hf0⟩ := blk_cells hblk 0 _ rfl
  obtain ⟨hq1, hf1⟩ := blk_cells hblk 1 _ rfl
  have hsz : w.heap.size < w2.heap.size := by have := hgb.size; simp at this; omega
  clear hblk HC hzz
  go_wp2
  have hW : w.grownBy (((w2.setCell ⟨w.heap.size, 0, none⟩ (Value.int IntKind.i64 zs.length)).setCell ⟨w.heap.size, 1, none⟩ (Value.slice (some ⟨g, o1, none⟩) M (c - L))).alloc (Obj.cells #[Value.int IntKind.i64 zs.length, Value.slice (some ⟨g, o1, none⟩) M (c - L)] 49)) none :=
    gb_alloc (gb_setCell (gb_setCell (gb_trans (gb_alloc_drewN w _ q none) hgb) _ (Nat.le_refl _) _) _ (Nat.le_refl _) _) _
  refine bodyPost_ret (v := .tuple #[.agg #[.int .i64 zs.length, .slice (some ⟨g, o1, none⟩) M (c - L)], .slice (some ⟨g, o2, none⟩) 0 (c - L - M), .nilIface]) ?_ rfl ⟨o1, c - L, o2, c - L - M, rfl, hlR1.gb hW hg (by simp), ?_, ?_, hW⟩
  · simp [results, Ybaf.results26, go_sem, hq0, hq1, hsz]
  · have := HN.out; omega
  · unfold maxLen; omega

end Go.Proofs.YbulktzaFmt
