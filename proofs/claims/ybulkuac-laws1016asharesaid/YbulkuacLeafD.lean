import Derived.Test.YbulkuacLeafC
import Derived.Test.YbulkuacWhole
namespace Go.Proofs.Ybulkuac
open Go.RowKit
set_option linter.unusedVariables false
attribute [local go_sem] run_store_float

theorem enc10 : enc 10 = 4621819117588971520 := by decide
theorem enc100 : enc 100 = 4636737291354636288 := by decide

set_option maxHeartbeats 3200000 in
set_option maxRecDepth 100000 in
theorem rule_call {t d k : Nat} (ht : t < 256) (hd : d < 256) (hk : k < 256) (R : RuleB (t % 50) (d % 101) (k % 99)) (w : World) :
    Calls Yba.prog 8 #[.int .u8 t, .int .u8 d, .int .u8 k] w fun e w' => e = .returned (.tuple #[.agg #[.float .f64 R.T, .float .f64 R.D], .float .f64 R.f]) ∧ Below w.heap.size w w' := by
  have e1 : Ieee.double.div (floatOfInt .f64 (1 + (t : Int) % 50)) 4621819117588971520 = some R.T := by
    have := R.hT; unfold tmpB at this; rw [enc10] at this
    rw [← this]; rfl
  have e2 : Ieee.double.div (floatOfInt .f64 ((d : Int) % 101)) 4636737291354636288 = some R.D := by
    have := R.hD; unfold disB at this; rw [enc100] at this
    rw [← this]; rfl
  have e3 : Ieee.double.div (floatOfInt .f64 (1 + (k : Int) % 99)) 4636737291354636288 = some R.f := by
    have := R.hf; unfold facB at this; rw [enc100] at this
    rw [← this]; rfl
  have g1 := run_div e1
  have g2 := run_div e2
  have g3 := run_div e3
  clear e1 e2 e3
  go_enter Yba.func8, Yba.ntmps8
  go_wp2
  refine bodyPost_ret (v := .tuple #[.agg #[.float .f64 R.T, .float .f64 R.D], .float .f64 R.f]) (by simp [results, Yba.results8, go_sem]) rfl ⟨rfl, ?_⟩
  exact ((Below.refl _ _).alloc (Nat.le_refl _) _).alloc (by simp) _

end Go.Proofs.Ybulkuac
