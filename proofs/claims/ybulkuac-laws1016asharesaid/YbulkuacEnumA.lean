import Derived.Test.YbulkuacEnum
namespace Go.Proofs.Ybulkuac
open Go Ieee

set_option maxRecDepth 100000 in
theorem logOk_all : ∀ k < 99, logOk k = true := by decide +kernel

def disB (k : Nat) : Option Nat := Ieee.double.div (enc k) (enc 100)

/-- The two lowest shares are near each other. -/
def lowOk (k : Nat) : Bool := match disB k with
  | some d => match Ieee.double.sub 4607182418800017408 d, Ieee.double.mul 4611686018427387904 d with
    | some a, some m => match Ieee.double.div 4607182418800017408 a, Ieee.double.sub 4613937818241073152 m with
      | some b, some n => match Ieee.double.add b 4611686018427387904, Ieee.double.div a n with
        | some c, some l2 => match Ieee.double.div 4607182418800017408 c with
          | some l1 => isN l1 && isN l2 && decide (0 ≤ fx l1) && decide (fx l1 ≤ 2 ^ 1074) && decide (0 ≤ fx l2) && decide (fx l2 ≤ 2 ^ 1074) &&
              decide ((fx l1 + -fx l2) * 10000000000000 ≤ 2 ^ 1074) && decide (-(2 ^ 1074) ≤ (fx l1 + -fx l2) * 10000000000000)
          | none => false
        | _, _ => false
      | _, _ => false
    | _, _ => false
  | none => false

set_option maxRecDepth 100000 in
theorem lowOk_all : ∀ k < 101, lowOk k = true := by decide +kernel

end Go.Proofs.Ybulkuac
