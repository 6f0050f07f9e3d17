import Derived.Test.YbulkuacLeaf
namespace Go.Proofs.Ybulkuac
open Go.RowKit
set_option linter.unusedVariables false

set_option maxHeartbeats 1600000 in
set_option maxRecDepth 100000 in
theorem same_call (x : Nat) (w : World) :
    Calls Yba.prog 10 #[.float .f64 x, .float .f64 x] w fun e w' => e = .returned (.bool true) ∧ w' = w := by
  have hx := ext_bits x
  go_enter Yba.func10, Yba.ntmps10
  go_wp2
  go_ret
  exact ⟨rfl, rfl⟩

set_option maxHeartbeats 1600000 in
set_option maxRecDepth 100000 in
theorem max3_call (a b c : Nat) (w : World) :
    Calls Yba.prog 12 #[.float .f64 a, .float .f64 b, .float .f64 c] w fun e w' => e = .returned (.float .f64 (max3B a b c)) ∧ w' = w := by
  unfold max3B gtB
  dsimp only
  by_cases h1 : (Ieee.double.order b a == some .gt) = true
  · rw [if_pos h1]
    have h1' : (FloatKind.f64.format.order b a == some .gt) = true := h1
    by_cases h2 : (Ieee.double.order c b == some .gt) = true
    · rw [if_pos h2]
      have h2' : (FloatKind.f64.format.order c b == some .gt) = true := h2
      go_enter Yba.func12, Yba.ntmps12
      go_wp2
      go_ret
      exact ⟨rfl, rfl⟩
    · rw [if_neg h2]
      have h2' : (FloatKind.f64.format.order c b == some .gt) = false := eq_false_of_ne_true h2
      go_enter Yba.func12, Yba.ntmps12
      go_wp2
      go_ret
      exact ⟨rfl, rfl⟩
  · rw [if_neg h1]
    have h1' : (FloatKind.f64.format.order b a == some .gt) = false := eq_false_of_ne_true h1
    by_cases h2 : (Ieee.double.order c a == some .gt) = true
    · rw [if_pos h2]
      have h2' : (FloatKind.f64.format.order c a == some .gt) = true := h2
      go_enter Yba.func12, Yba.ntmps12
      go_wp2
      go_ret
      exact ⟨rfl, rfl⟩
    · rw [if_neg h2]
      have h2' : (FloatKind.f64.format.order c a == some .gt) = false := eq_false_of_ne_true h2
      go_enter Yba.func12, Yba.ntmps12
      go_wp2
      go_ret
      exact ⟨rfl, rfl⟩

/-- The operations of a share. -/
theorem share_parts {s f r : Nat} (h : shareB s f = some r) : ∃ n k d, Ieee.double.add s oneB = some n ∧ Ieee.double.add s f = some k ∧ Ieee.double.add k twoB = some d ∧ Ieee.double.div n d = some r := by
  unfold shareB at h
  simp only [Option.bind_eq_bind, Option.bind_eq_some_iff] at h
  obtain ⟨n, h1, k, h2, d, h3, h4⟩ := h
  exact ⟨n, k, d, h1, h2, h3, h4⟩

theorem run_add {x y r : Nat} (h : Ieee.double.add x y = some r) (W : World) : (binOp .add 27 (.float .f64 x) (.float .f64 y)).run Yba.prog W = .ok (.float .f64 r) W := run_float_arith W .add 27 .f64 x y r h
theorem run_sub {x y r : Nat} (h : Ieee.double.sub x y = some r) (W : World) : (binOp .sub 27 (.float .f64 x) (.float .f64 y)).run Yba.prog W = .ok (.float .f64 r) W := run_float_arith W .sub 27 .f64 x y r h
theorem run_mul {x y r : Nat} (h : Ieee.double.mul x y = some r) (W : World) : (binOp .mul 27 (.float .f64 x) (.float .f64 y)).run Yba.prog W = .ok (.float .f64 r) W := run_float_arith W .mul 27 .f64 x y r h
theorem run_div {x y r : Nat} (h : Ieee.double.div x y = some r) (W : World) : (binOp .quo 27 (.float .f64 x) (.float .f64 y)).run Yba.prog W = .ok (.float .f64 r) W := run_float_arith W .quo 27 .f64 x y r h

set_option maxHeartbeats 1600000 in
set_option maxRecDepth 100000 in
theorem ashare_call {s f r : Nat} (h : shareB s f = some r) (w : World) :
    Calls Yba.prog 13 #[.float .f64 s, .float .f64 f] w fun e w' => e = .returned (.float .f64 r) ∧ w' = w := by
  obtain ⟨n, k, d, h1, h2, h3, h4⟩ := share_parts h
  have g1 := run_add h1
  have g2 := run_add h2
  have g3 := run_add h3
  have g4 := run_div h4
  clear h h1 h2 h3 h4
  go_enter Yba.func13, Yba.ntmps13
  go_wp2
  go_ret
  exact ⟨rfl, rfl⟩

end Go.Proofs.Ybulkuac
