import Derived.Test.YbulkuacInts
import Derived.Test.YbulkuacCut
import Derived.Laws.Externs
namespace Go.Proofs.Ybulkuac
open Go.RowKit
set_option linter.unusedVariables false

theorem ext_log {x r : Nat} (h0 : x % 2 ^ 63 ≠ 0) (h1 : x < 0x7FF0000000000000) (h : logB x = some r) (W : World) :
    (callFunc 21 #[.float .f64 x]).run Yba.prog W = .ok (.value (.float .f64 r)) W := by
  rw [run_callFunc_extern Yba.func21 (by kernel_rfl) (by kernel_rfl) (by kernel_rfl) (e := Extern.MathLog.archLog) (by kernel_rfl), log_run h0 h1 h]
  rfl

theorem pick_isN {x y : Nat} (hx : isN x = true) (hy : isN y = true) (name : String) (neg : Bool) (win : Ordering) :
    Extern.MathDim.pick name neg win #[.float .f64 x, .float .f64 y] = pure (.float .f64 (pickB neg win x y)) := pick_run (vl_fx hx) (vl_fx hy) name neg win

theorem ext_max {x y r : Nat} (h : maxO x y = some r) (W : World) :
    (callFunc 26 #[.float .f64 x, .float .f64 y]).run Yba.prog W = .ok (.value (.float .f64 r)) W := by
  unfold maxO at h
  split at h
  · rename_i hh
    rw [Bool.and_eq_true] at hh
    rw [run_callFunc_extern Yba.func26 (by kernel_rfl) (by kernel_rfl) (by kernel_rfl) (e := Extern.MathDim.pick "math.archMax" false .gt) (by kernel_rfl), pick_isN hh.1 hh.2, ← Option.some.inj h]
    rfl
  · cases h

theorem ext_min {x y r : Nat} (h : minO x y = some r) (W : World) :
    (callFunc 23 #[.float .f64 x, .float .f64 y]).run Yba.prog W = .ok (.value (.float .f64 r)) W := by
  unfold minO at h
  split at h
  · rename_i hh
    rw [Bool.and_eq_true] at hh
    rw [run_callFunc_extern Yba.func23 (by kernel_rfl) (by kernel_rfl) (by kernel_rfl) (e := Extern.MathDim.pick "math.archMin" true .lt) (by kernel_rfl), pick_isN hh.1 hh.2, ← Option.some.inj h]
    rfl
  · cases h

theorem ext_bits (x : Nat) (W : World) :
    (callFunc 20 #[.float .f64 x]).run Yba.prog W = .ok (.value (.int .u64 x)) W := by
  rw [run_callFunc_extern Yba.func20 (by kernel_rfl) (by kernel_rfl) (by kernel_rfl) (e := Extern.MathFloatBits.float64bits) (by kernel_rfl)]
  rfl

theorem ext_from (n : Int) (W : World) :
    (callFunc 25 #[.int .u64 n]).run Yba.prog W = .ok (.value (.float .f64 n.toNat)) W := by
  rw [run_callFunc_extern Yba.func25 (by kernel_rfl) (by kernel_rfl) (by kernel_rfl) (e := Extern.MathFloatBits.float64frombits) (by kernel_rfl)]
  rfl

set_option maxHeartbeats 1600000 in
set_option maxRecDepth 100000 in
theorem log_call {x r : Nat} (h0 : x % 2 ^ 63 ≠ 0) (h1 : x < 0x7FF0000000000000) (h : logB x = some r) (w : World) :
    Calls Yba.prog 11 #[.float .f64 x] w fun e w' => e = .returned (.float .f64 r) ∧ w' = w := by
  have hx := ext_log h0 h1 h
  clear h h0 h1
  go_enter Yba.func11, Yba.ntmps11
  go_wp2
  go_ret
  exact ⟨rfl, rfl⟩

set_option maxHeartbeats 1600000 in
set_option maxRecDepth 100000 in
theorem max_call {x y r : Nat} (h : maxO x y = some r) (w : World) :
    Calls Yba.prog 18 #[.float .f64 x, .float .f64 y] w fun e w' => e = .returned (.float .f64 r) ∧ w' = w := by
  have hx := ext_max h
  clear h
  go_enter Yba.func18, Yba.ntmps18
  go_wp2
  go_ret
  exact ⟨rfl, rfl⟩

set_option maxHeartbeats 1600000 in
set_option maxRecDepth 100000 in
theorem min_call {x y r : Nat} (h : minO x y = some r) (w : World) :
    Calls Yba.prog 14 #[.float .f64 x, .float .f64 y] w fun e w' => e = .returned (.float .f64 r) ∧ w' = w := by
  have hx := ext_min h
  clear h
  go_enter Yba.func14, Yba.ntmps14
  go_wp2
  go_ret
  exact ⟨rfl, rfl⟩

end Go.Proofs.Ybulkuac
