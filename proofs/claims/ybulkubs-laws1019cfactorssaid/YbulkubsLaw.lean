import Derived.Test.YbulkubsSub
namespace Go.Proofs.Ybulkubs
open Go.RowKit
set_option linter.unusedVariables false

theorem fin_cases (hM vM a b : Int) (h0 : 0 ≤ hM) (h1 : hM ≤ 15) (v0 : 0 ≤ vM) (v1 : vM ≤ 15) (a0 : 1 ≤ a) (a1 : a ≤ 4) (b0 : 1 ≤ b) (b1 : b ≤ 4) :
    (∃ x y : Int, 0 ≤ x ∧ x ≤ 15 ∧ 0 ≤ y ∧ y ≤ 15 ∧ quot hM a = x ∧ quot vM b = y ∧ G hM vM a b = x * 16 + y) ∨
    (G hM vM a b = 0 ∧ quot hM a = -1) ∨ (∃ x : Int, 0 ≤ x ∧ x ≤ 15 ∧ G hM vM a b = 0 ∧ quot hM a = x ∧ quot vM b = -1) := by
  have d1 := div_bd hM a h0 h1 a0 a1
  have d2 := div_bd vM b v0 v1 b0 b1
  unfold quot G
  by_cases hh : hM % a = 0
  · by_cases hv : vM % b = 0
    · exact .inl ⟨hM / a, vM / b, d1.1, d1.2, d2.1, d2.2, by rw [if_pos hh], by rw [if_pos hv], by rw [if_pos ⟨hh, hv⟩]⟩
    · exact .inr (.inr ⟨hM / a, d1.1, d1.2, by rw [if_neg (fun h => hv h.2)], by rw [if_pos hh], by rw [if_neg hv]⟩)
  · exact .inr (.inl ⟨by rw [if_neg (fun h => hh h.1)], by rw [if_neg hh]⟩)

theorem cellC (w : World) (a b : Obj) (cs : Array Value) (j : Nat) : ((((w.alloc a).alloc b).alloc (.cells cs 54)).drew.drew.drew).cell? ⟨w.heap.size + 1 + 1, j, none⟩ = cs[j]? := by
  have h : ((((w.alloc a).alloc b).alloc (.cells cs 54)).drew.drew.drew).heap[w.heap.size + 1 + 1]? = some (.cells cs 54 (0, 0)) := by
    have e : ((w.alloc a).alloc b).heap.size = w.heap.size + 1 + 1 := by simp
    show (((w.alloc a).alloc b).alloc (.cells cs 54)).heap[w.heap.size + 1 + 1]? = _
    rw [← e]
    exact heap_alloc_new _ _
  exact cell_of_row _ _ j cs 54 (0, 0) h

set_option maxHeartbeats 3200000 in
set_option maxRecDepth 100000 in
theorem factors (h0 h1 h2 v0 v1 v2 m n s : Int) (bh0 : 0 ≤ h0 ∧ h0 ≤ 255) (bh1 : 0 ≤ h1 ∧ h1 ≤ 255) (bh2 : 0 ≤ h2 ∧ h2 ≤ 255) (bv0 : 0 ≤ v0 ∧ v0 ≤ 255) (bv1 : 0 ≤ v1 ∧ v1 ≤ 255) (bv2 : 0 ≤ v2 ∧ v2 ≤ 255)
    (bm : 0 ≤ m ∧ m ≤ 255) (bn : 0 ≤ n ∧ n ≤ 255) (bs : 0 ≤ s ∧ s ≤ 255) (w : World) :
    Calls Yba.prog 4 #[.agg #[.int .u8 h0, .int .u8 h1, .int .u8 h2], .agg #[.int .u8 v0, .int .u8 v1, .int .u8 v2], .int .u8 m, .int .u8 n, .int .u8 s] w fun e w' => e = .returned (.bool true) ∧ Grown w w' := by
  obtain ⟨bh00, bh01⟩ := bh0
  obtain ⟨bh10, bh11⟩ := bh1
  obtain ⟨bh20, bh21⟩ := bh2
  obtain ⟨bv00, bv01⟩ := bv0
  obtain ⟨bv10, bv11⟩ := bv1
  obtain ⟨bv20, bv21⟩ := bv2
  obtain ⟨bm0, bm1⟩ := bm
  obtain ⟨bn0, bn1⟩ := bn
  obtain ⟨bs0, bs1⟩ := bs
  go_enter Yba.func4, Yba.ntmps4
  go_wp2
  refine wp_loop_rounds 4 ?_
  rw [rounds_succ]
  go_wp2
  go_region
  go_wp2
  rw [rounds_succ]
  go_wp2
  go_region
  go_wp2
  rw [rounds_succ]
  go_wp2
  go_region
  go_wp2
  rw [rounds_succ]
  go_wp2_with fail
  rcases (show s % 3 = 0 ∨ s % 3 = 1 ∨ s % 3 = 2 by omega) with hs | hs | hs
  · rw [hs]
    refine (sub_zero _ (m % 16) (n % 16) (1 + h0 % 4) (1 + v0 % 4) (by omega) (by omega) (by omega) (by omega) (by omega) (by omega) (by omega) (by omega) _ (cellC w _ _ _ 0) (cellC w _ _ _ 1) (cellC w _ _ _ 12) (cellC w _ _ _ 13)).mono ?_
    rintro e w1 ⟨rfl, q, rfl⟩
    have hfin := fin_cases (m % 16) (n % 16) (1 + h0 % 4) (1 + v0 % 4) (by omega) (by omega) (by omega) (by omega) (by omega) (by omega) (by omega) (by omega)
    have HQ1 := hid (fun W => quot_any (m % 16) (1 + h0 % 4) (by omega) (by omega) (by omega) (by omega) W)
    have HQ2 := hid (fun W => quot_any (n % 16) (1 + v0 % 4) (by omega) (by omega) (by omega) (by omega) W)
    generalize G (m % 16) (n % 16) (1 + h0 % 4) (1 + v0 % 4) = g at hfin ⊢
    generalize quot (m % 16) (1 + h0 % 4) = qh at hfin HQ1
    generalize quot (n % 16) (1 + v0 % 4) = qv at hfin HQ2
    have HFin := hid hfin
    clear hfin
    go_wp2
    refine wp_loop_rounds 4 ?_
    rw [rounds_succ]
    go_wp2
    go_quiet (fail)
    go_wp2
    rw [rounds_succ]
    go_wp2
    go_quiet (fail)
    go_wp2
    rw [rounds_succ]
    go_wp2
    go_quiet (fail)
    go_wp2
    rw [rounds_succ]
    go_wp2_with fail
    refine (HQ1.out _).mono ?_
    rintro e w2 ⟨rfl, rfl⟩
    go_wp2_with fail
    refine (HQ2.out _).mono ?_
    rintro e w3 ⟨rfl, rfl⟩
    rcases HFin.out with ⟨x, y, x0, x1, y0, y1, rfl, rfl, rfl⟩ | ⟨rfl, rfl⟩ | ⟨x, x0, x1, rfl, rfl, rfl⟩
    · have hor := or16 qh qv x0 x1 y0 y1
      clear HFin HQ1 HQ2
      go_wp2
      go_ret
      exact ⟨rfl, by repeat (first | exact Grown.refl _ | apply Grown.drew | apply Grown.alloc)⟩
    · clear HFin HQ1 HQ2
      go_wp2
      go_ret
      exact ⟨rfl, by repeat (first | exact Grown.refl _ | apply Grown.drew | apply Grown.alloc)⟩
    · clear HFin HQ1 HQ2
      go_wp2
      go_ret
      exact ⟨rfl, by repeat (first | exact Grown.refl _ | apply Grown.drew | apply Grown.alloc)⟩
  · rw [hs]
    refine (sub_one _ (m % 16) (n % 16) (1 + h1 % 4) (1 + v1 % 4) (by omega) (by omega) (by omega) (by omega) (by omega) (by omega) (by omega) (by omega) _ (cellC w _ _ _ 4) (cellC w _ _ _ 5) (cellC w _ _ _ 12) (cellC w _ _ _ 13)).mono ?_
    rintro e w1 ⟨rfl, q, rfl⟩
    have hfin := fin_cases (m % 16) (n % 16) (1 + h1 % 4) (1 + v1 % 4) (by omega) (by omega) (by omega) (by omega) (by omega) (by omega) (by omega) (by omega)
    have HQ1 := hid (fun W => quot_any (m % 16) (1 + h1 % 4) (by omega) (by omega) (by omega) (by omega) W)
    have HQ2 := hid (fun W => quot_any (n % 16) (1 + v1 % 4) (by omega) (by omega) (by omega) (by omega) W)
    generalize G (m % 16) (n % 16) (1 + h1 % 4) (1 + v1 % 4) = g at hfin ⊢
    generalize quot (m % 16) (1 + h1 % 4) = qh at hfin HQ1
    generalize quot (n % 16) (1 + v1 % 4) = qv at hfin HQ2
    have HFin := hid hfin
    clear hfin
    go_wp2
    refine wp_loop_rounds 4 ?_
    rw [rounds_succ]
    go_wp2
    go_quiet (fail)
    go_wp2
    rw [rounds_succ]
    go_wp2
    go_quiet (fail)
    go_wp2
    rw [rounds_succ]
    go_wp2
    go_quiet (fail)
    go_wp2
    rw [rounds_succ]
    go_wp2_with fail
    refine (HQ1.out _).mono ?_
    rintro e w2 ⟨rfl, rfl⟩
    go_wp2_with fail
    refine (HQ2.out _).mono ?_
    rintro e w3 ⟨rfl, rfl⟩
    rcases HFin.out with ⟨x, y, x0, x1, y0, y1, rfl, rfl, rfl⟩ | ⟨rfl, rfl⟩ | ⟨x, x0, x1, rfl, rfl, rfl⟩
    · have hor := or16 qh qv x0 x1 y0 y1
      clear HFin HQ1 HQ2
      go_wp2
      go_ret
      exact ⟨rfl, by repeat (first | exact Grown.refl _ | apply Grown.drew | apply Grown.alloc)⟩
    · clear HFin HQ1 HQ2
      go_wp2
      go_ret
      exact ⟨rfl, by repeat (first | exact Grown.refl _ | apply Grown.drew | apply Grown.alloc)⟩
    · clear HFin HQ1 HQ2
      go_wp2
      go_ret
      exact ⟨rfl, by repeat (first | exact Grown.refl _ | apply Grown.drew | apply Grown.alloc)⟩
  · rw [hs]
    refine (sub_two _ (m % 16) (n % 16) (1 + h2 % 4) (1 + v2 % 4) (by omega) (by omega) (by omega) (by omega) (by omega) (by omega) (by omega) (by omega) _ (cellC w _ _ _ 8) (cellC w _ _ _ 9) (cellC w _ _ _ 12) (cellC w _ _ _ 13)).mono ?_
    rintro e w1 ⟨rfl, q, rfl⟩
    have hfin := fin_cases (m % 16) (n % 16) (1 + h2 % 4) (1 + v2 % 4) (by omega) (by omega) (by omega) (by omega) (by omega) (by omega) (by omega) (by omega)
    have HQ1 := hid (fun W => quot_any (m % 16) (1 + h2 % 4) (by omega) (by omega) (by omega) (by omega) W)
    have HQ2 := hid (fun W => quot_any (n % 16) (1 + v2 % 4) (by omega) (by omega) (by omega) (by omega) W)
    generalize G (m % 16) (n % 16) (1 + h2 % 4) (1 + v2 % 4) = g at hfin ⊢
    generalize quot (m % 16) (1 + h2 % 4) = qh at hfin HQ1
    generalize quot (n % 16) (1 + v2 % 4) = qv at hfin HQ2
    have HFin := hid hfin
    clear hfin
    go_wp2
    refine wp_loop_rounds 4 ?_
    rw [rounds_succ]
    go_wp2
    go_quiet (fail)
    go_wp2
    rw [rounds_succ]
    go_wp2
    go_quiet (fail)
    go_wp2
    rw [rounds_succ]
    go_wp2
    go_quiet (fail)
    go_wp2
    rw [rounds_succ]
    go_wp2_with fail
    refine (HQ1.out _).mono ?_
    rintro e w2 ⟨rfl, rfl⟩
    go_wp2_with fail
    refine (HQ2.out _).mono ?_
    rintro e w3 ⟨rfl, rfl⟩
    rcases HFin.out with ⟨x, y, x0, x1, y0, y1, rfl, rfl, rfl⟩ | ⟨rfl, rfl⟩ | ⟨x, x0, x1, rfl, rfl, rfl⟩
    · have hor := or16 qh qv x0 x1 y0 y1
      clear HFin HQ1 HQ2
      go_wp2
      go_ret
      exact ⟨rfl, by repeat (first | exact Grown.refl _ | apply Grown.drew | apply Grown.alloc)⟩
    · clear HFin HQ1 HQ2
      go_wp2
      go_ret
      exact ⟨rfl, by repeat (first | exact Grown.refl _ | apply Grown.drew | apply Grown.alloc)⟩
    · clear HFin HQ1 HQ2
      go_wp2
      go_ret
      exact ⟨rfl, by repeat (first | exact Grown.refl _ | apply Grown.drew | apply Grown.alloc)⟩

end Go.Proofs.Ybulkubs
