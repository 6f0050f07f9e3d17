import Derived.Test.YbulkubsRows
import Derived.WalkKit
import Derived.WalkLawsBesides
import Derived.Below
import Derived.BigQuiet
namespace Go.Proofs.Ybulkubs
open Go.RowKit
set_option linter.unusedVariables false

theorem hid {p : Prop} (h : p) : Hid p := h

/-- The whole quotient, or -1. -/
def quot (n d : Int) : Int := if n % d = 0 then n / d else -1

set_option maxHeartbeats 1600000 in
set_option maxRecDepth 100000 in
theorem quot_any (n d : Int) (hn : 0 ≤ n) (hn2 : n ≤ 15) (hd : 1 ≤ d) (hd2 : d ≤ 4) (w : World) :
    Calls Yba.prog 8 #[.int .i64 n, .int .i64 d] w fun e w' => e = .returned (.int .i64 (quot n d)) ∧ w' = w := by
  rcases (show d = 1 ∨ d = 2 ∨ d = 3 ∨ d = 4 by omega) with rfl | rfl | rfl | rfl
  · clear hd hd2
    go_enter Yba.func8, Yba.ntmps8
    go_wp2
    go_loop [5] (fun v => ∃ q : Int, 0 ≤ q ∧ q ≤ n + 1 ∧ v = .int .i64 q ∧ Hid (n % 1 = 0 → q ≤ n / 1)) (fun v => (n + 1 - intOf v).toNat)
    case atStart => exact ⟨0, by omega, by omega, rfl, fun h => by omega⟩
    case round =>
      obtain ⟨q, h0, h1, rfl, HQ⟩ := hrel
      by_cases hle : q ≤ n
      · by_cases heq : q * 1 = n
        · have hb : (q * 1 == n) = true := by rw [beq_iff_eq]; exact heq
          have hquot : quot n 1 = q := by
            unfold quot
            rw [if_pos (by omega)]; omega
          have HQ2 := hid hquot
          clear heq hquot
          go_wp2
          go_ret
          exact ⟨by rw [HQ2.out]; rfl, rfl⟩
        · have hb : (q * 1 == n) = false := beq_eq_false_iff_ne.2 heq
          have hn' : n % 1 = 0 → q + 1 ≤ n / 1 := fun h => by have := HQ.out h; omega
          have HN := hid hn'
          clear heq hn'
          go_wp2
          go_round
          case rel => exact ⟨q + 1, by omega, by omega, rfl, HN⟩
          case measure => simp [intOf]; omega
      · have hquot : quot n 1 = -1 := by
          unfold quot
          rw [if_neg (fun h => by have := HQ.out h; omega)]
        have HQ2 := hid hquot
        clear hquot
        go_wp2
        go_ret
        exact ⟨by rw [HQ2.out]; rfl, rfl⟩
  · clear hd hd2
    go_enter Yba.func8, Yba.ntmps8
    go_wp2
    go_loop [5] (fun v => ∃ q : Int, 0 ≤ q ∧ q ≤ n + 1 ∧ v = .int .i64 q ∧ Hid (n % 2 = 0 → q ≤ n / 2)) (fun v => (n + 1 - intOf v).toNat)
    case atStart => exact ⟨0, by omega, by omega, rfl, fun h => by omega⟩
    case round =>
      obtain ⟨q, h0, h1, rfl, HQ⟩ := hrel
      by_cases hle : q ≤ n
      · by_cases heq : q * 2 = n
        · have hb : (q * 2 == n) = true := by rw [beq_iff_eq]; exact heq
          have hquot : quot n 2 = q := by
            unfold quot
            rw [if_pos (by omega)]; omega
          have HQ2 := hid hquot
          clear heq hquot
          go_wp2
          go_ret
          exact ⟨by rw [HQ2.out]; rfl, rfl⟩
        · have hb : (q * 2 == n) = false := beq_eq_false_iff_ne.2 heq
          have hn' : n % 2 = 0 → q + 1 ≤ n / 2 := fun h => by have := HQ.out h; omega
          have HN := hid hn'
          clear heq hn'
          go_wp2
          go_round
          case rel => exact ⟨q + 1, by omega, by omega, rfl, HN⟩
          case measure => simp [intOf]; omega
      · have hquot : quot n 2 = -1 := by
          unfold quot
          rw [if_neg (fun h => by have := HQ.out h; omega)]
        have HQ2 := hid hquot
        clear hquot
        go_wp2
        go_ret
        exact ⟨by rw [HQ2.out]; rfl, rfl⟩
  · clear hd hd2
    go_enter Yba.func8, Yba.ntmps8
    go_wp2
    go_loop [5] (fun v => ∃ q : Int, 0 ≤ q ∧ q ≤ n + 1 ∧ v = .int .i64 q ∧ Hid (n % 3 = 0 → q ≤ n / 3)) (fun v => (n + 1 - intOf v).toNat)
    case atStart => exact ⟨0, by omega, by omega, rfl, fun h => by omega⟩
    case round =>
      obtain ⟨q, h0, h1, rfl, HQ⟩ := hrel
      by_cases hle : q ≤ n
      · by_cases heq : q * 3 = n
        · have hb : (q * 3 == n) = true := by rw [beq_iff_eq]; exact heq
          have hquot : quot n 3 = q := by
            unfold quot
            rw [if_pos (by omega)]; omega
          have HQ2 := hid hquot
          clear heq hquot
          go_wp2
          go_ret
          exact ⟨by rw [HQ2.out]; rfl, rfl⟩
        · have hb : (q * 3 == n) = false := beq_eq_false_iff_ne.2 heq
          have hn' : n % 3 = 0 → q + 1 ≤ n / 3 := fun h => by have := HQ.out h; omega
          have HN := hid hn'
          clear heq hn'
          go_wp2
          go_round
          case rel => exact ⟨q + 1, by omega, by omega, rfl, HN⟩
          case measure => simp [intOf]; omega
      · have hquot : quot n 3 = -1 := by
          unfold quot
          rw [if_neg (fun h => by have := HQ.out h; omega)]
        have HQ2 := hid hquot
        clear hquot
        go_wp2
        go_ret
        exact ⟨by rw [HQ2.out]; rfl, rfl⟩
  · clear hd hd2
    go_enter Yba.func8, Yba.ntmps8
    go_wp2
    go_loop [5] (fun v => ∃ q : Int, 0 ≤ q ∧ q ≤ n + 1 ∧ v = .int .i64 q ∧ Hid (n % 4 = 0 → q ≤ n / 4)) (fun v => (n + 1 - intOf v).toNat)
    case atStart => exact ⟨0, by omega, by omega, rfl, fun h => by omega⟩
    case round =>
      obtain ⟨q, h0, h1, rfl, HQ⟩ := hrel
      by_cases hle : q ≤ n
      · by_cases heq : q * 4 = n
        · have hb : (q * 4 == n) = true := by rw [beq_iff_eq]; exact heq
          have hquot : quot n 4 = q := by
            unfold quot
            rw [if_pos (by omega)]; omega
          have HQ2 := hid hquot
          clear heq hquot
          go_wp2
          go_ret
          exact ⟨by rw [HQ2.out]; rfl, rfl⟩
        · have hb : (q * 4 == n) = false := beq_eq_false_iff_ne.2 heq
          have hn' : n % 4 = 0 → q + 1 ≤ n / 4 := fun h => by have := HQ.out h; omega
          have HN := hid hn'
          clear heq hn'
          go_wp2
          go_round
          case rel => exact ⟨q + 1, by omega, by omega, rfl, HN⟩
          case measure => simp [intOf]; omega
      · have hquot : quot n 4 = -1 := by
          unfold quot
          rw [if_neg (fun h => by have := HQ.out h; omega)]
        have HQ2 := hid hquot
        clear hquot
        go_wp2
        go_ret
        exact ⟨by rw [HQ2.out]; rfl, rfl⟩

/-- What subsampling answers. -/
def G (hM vM a b : Int) : Int := if hM % a = 0 ∧ vM % b = 0 then hM / a * 16 + vM / b else 0

theorem wraps_i64 (n : Int) (h0 : 0 ≤ n) (h1 : n < 2 ^ 63) : IntKind.i64.wrap n = n := by rw [IntKind.wrap_i64]; omega

theorem or16 (x y : Int) (hx : 0 ≤ x) (hx1 : x ≤ 15) (hy : 0 ≤ y) (hy1 : y ≤ 15) : bits .or .i64 (x * 16) y = x * 16 + y :=
  bits_join .i64 63 (by decide) wraps_i64 4 (x * 16) y (by omega) (by omega) (by omega) hy (by omega) (by omega)

theorem or16w (x y : Int) (hx : 0 ≤ x) (hx1 : x ≤ 15) (hy : 0 ≤ y) (hy1 : y ≤ 15) : bits .or .i64 (wrap64 (x * 16)) y % 256 = x * 16 + y := by
  have e : wrap64 (x * 16) = x * 16 := by unfold wrap64; omega
  rw [e, or16 x y hx hx1 hy hy1]
  omega

theorem div_bd (n d : Int) (h0 : 0 ≤ n) (h1 : n ≤ 15) (d0 : 1 ≤ d) (d1 : d ≤ 4) : 0 ≤ n / d ∧ n / d ≤ 15 := by
  rcases (show d = 1 ∨ d = 2 ∨ d = 3 ∨ d = 4 by omega) with rfl | rfl | rfl | rfl <;> omega

set_option maxHeartbeats 1600000 in
set_option maxRecDepth 100000 in
theorem sub_zero (C : Nat) (hM vM a b : Int) (h0 : 0 ≤ hM) (h1 : hM ≤ 15) (v0 : 0 ≤ vM) (v1 : vM ≤ 15) (a0 : 1 ≤ a) (a1 : a ≤ 4) (b0 : 1 ≤ b) (b1 : b ≤ 4) (w : World)
    (cA : w.cell? ⟨C, 0, none⟩ = some (.int .i64 a)) (cB : w.cell? ⟨C, 1, none⟩ = some (.int .i64 b)) (cH : w.cell? ⟨C, 12, none⟩ = some (.int .i64 hM)) (cV : w.cell? ⟨C, 13, none⟩ = some (.int .i64 vM)) :
    Calls Yba.prog 7 #[.pointer (some ⟨C, 0, none⟩), .int .i64 0] w fun e w' => e = .returned (.int .u8 (G hM vM a b)) ∧ ∃ q, w' = w.drewN q := by
  by_cases hh : hM % a = 0
  · by_cases hv : vM % b = 0
    · have d1 := div_bd hM a h0 h1 a0 a1
      have d2 := div_bd vM b v0 v1 b0 b1
      have HG : Hid (bits .or .i64 (wrap64 (hM / a * 16)) (vM / b) % 256 = G hM vM a b) := by
        show _ = _
        rw [or16w _ _ d1.1 d1.2 d2.1 d2.2]
        unfold G; rw [if_pos ⟨hh, hv⟩]
      clear d1 d2
      go_enter Yba.func7, Yba.ntmps7
      go_wp2
      go_quiet (fail)
      go_wp2
      go_quiet (fail)
      go_wp2
      go_ret
      exact ⟨by rw [← HG.out]; rfl, _, World.drewN_drewN _ _ _⟩
    · have HG : Hid (G hM vM a b = 0) := by show _ = _; unfold G; rw [if_neg (fun h => hv h.2)]
      have hv' : (vM % b != 0) = true := by rw [bne_iff_ne]; exact hv
      go_enter Yba.func7, Yba.ntmps7
      go_wp2
      go_quiet (fail)
      go_wp2
      go_ret
      exact ⟨by rw [HG.out]; rfl, _, rfl⟩
  · have HG : Hid (G hM vM a b = 0) := by show _ = _; unfold G; rw [if_neg (fun h => hh h.1)]
    have hh' : (hM % a != 0) = true := by rw [bne_iff_ne]; exact hh
    go_enter Yba.func7, Yba.ntmps7
    go_wp2
    go_quiet (fail)
    go_wp2
    go_ret
    exact ⟨by rw [HG.out]; rfl, _, rfl⟩

set_option maxHeartbeats 1600000 in
set_option maxRecDepth 100000 in
theorem sub_one (C : Nat) (hM vM a b : Int) (h0 : 0 ≤ hM) (h1 : hM ≤ 15) (v0 : 0 ≤ vM) (v1 : vM ≤ 15) (a0 : 1 ≤ a) (a1 : a ≤ 4) (b0 : 1 ≤ b) (b1 : b ≤ 4) (w : World)
    (cA : w.cell? ⟨C, 4, none⟩ = some (.int .i64 a)) (cB : w.cell? ⟨C, 5, none⟩ = some (.int .i64 b)) (cH : w.cell? ⟨C, 12, none⟩ = some (.int .i64 hM)) (cV : w.cell? ⟨C, 13, none⟩ = some (.int .i64 vM)) :
    Calls Yba.prog 7 #[.pointer (some ⟨C, 0, none⟩), .int .i64 1] w fun e w' => e = .returned (.int .u8 (G hM vM a b)) ∧ ∃ q, w' = w.drewN q := by
  by_cases hh : hM % a = 0
  · by_cases hv : vM % b = 0
    · have d1 := div_bd hM a h0 h1 a0 a1
      have d2 := div_bd vM b v0 v1 b0 b1
      have HG : Hid (bits .or .i64 (wrap64 (hM / a * 16)) (vM / b) % 256 = G hM vM a b) := by
        show _ = _
        rw [or16w _ _ d1.1 d1.2 d2.1 d2.2]
        unfold G; rw [if_pos ⟨hh, hv⟩]
      clear d1 d2
      go_enter Yba.func7, Yba.ntmps7
      go_wp2
      go_quiet (fail)
      go_wp2
      go_quiet (fail)
      go_wp2
      go_ret
      exact ⟨by rw [← HG.out]; rfl, _, World.drewN_drewN _ _ _⟩
    · have HG : Hid (G hM vM a b = 0) := by show _ = _; unfold G; rw [if_neg (fun h => hv h.2)]
      have hv' : (vM % b != 0) = true := by rw [bne_iff_ne]; exact hv
      go_enter Yba.func7, Yba.ntmps7
      go_wp2
      go_quiet (fail)
      go_wp2
      go_ret
      exact ⟨by rw [HG.out]; rfl, _, rfl⟩
  · have HG : Hid (G hM vM a b = 0) := by show _ = _; unfold G; rw [if_neg (fun h => hh h.1)]
    have hh' : (hM % a != 0) = true := by rw [bne_iff_ne]; exact hh
    go_enter Yba.func7, Yba.ntmps7
    go_wp2
    go_quiet (fail)
    go_wp2
    go_ret
    exact ⟨by rw [HG.out]; rfl, _, rfl⟩

set_option maxHeartbeats 1600000 in
set_option maxRecDepth 100000 in
theorem sub_two (C : Nat) (hM vM a b : Int) (h0 : 0 ≤ hM) (h1 : hM ≤ 15) (v0 : 0 ≤ vM) (v1 : vM ≤ 15) (a0 : 1 ≤ a) (a1 : a ≤ 4) (b0 : 1 ≤ b) (b1 : b ≤ 4) (w : World)
    (cA : w.cell? ⟨C, 8, none⟩ = some (.int .i64 a)) (cB : w.cell? ⟨C, 9, none⟩ = some (.int .i64 b)) (cH : w.cell? ⟨C, 12, none⟩ = some (.int .i64 hM)) (cV : w.cell? ⟨C, 13, none⟩ = some (.int .i64 vM)) :
    Calls Yba.prog 7 #[.pointer (some ⟨C, 0, none⟩), .int .i64 2] w fun e w' => e = .returned (.int .u8 (G hM vM a b)) ∧ ∃ q, w' = w.drewN q := by
  by_cases hh : hM % a = 0
  · by_cases hv : vM % b = 0
    · have d1 := div_bd hM a h0 h1 a0 a1
      have d2 := div_bd vM b v0 v1 b0 b1
      have HG : Hid (bits .or .i64 (wrap64 (hM / a * 16)) (vM / b) % 256 = G hM vM a b) := by
        show _ = _
        rw [or16w _ _ d1.1 d1.2 d2.1 d2.2]
        unfold G; rw [if_pos ⟨hh, hv⟩]
      clear d1 d2
      go_enter Yba.func7, Yba.ntmps7
      go_wp2
      go_quiet (fail)
      go_wp2
      go_quiet (fail)
      go_wp2
      go_ret
      exact ⟨by rw [← HG.out]; rfl, _, World.drewN_drewN _ _ _⟩
    · have HG : Hid (G hM vM a b = 0) := by show _ = _; unfold G; rw [if_neg (fun h => hv h.2)]
      have hv' : (vM % b != 0) = true := by rw [bne_iff_ne]; exact hv
      go_enter Yba.func7, Yba.ntmps7
      go_wp2
      go_quiet (fail)
      go_wp2
      go_ret
      exact ⟨by rw [HG.out]; rfl, _, rfl⟩
  · have HG : Hid (G hM vM a b = 0) := by show _ = _; unfold G; rw [if_neg (fun h => hh h.1)]
    have hh' : (hM % a != 0) = true := by rw [bne_iff_ne]; exact hh
    go_enter Yba.func7, Yba.ntmps7
    go_wp2
    go_quiet (fail)
    go_wp2
    go_ret
    exact ⟨by rw [HG.out]; rfl, _, rfl⟩

end Go.Proofs.Ybulkubs
