import Derived.Test.YbulktzaRec
namespace Go.Proofs.Ybulktza.lawS1014AExact
open Go.RowKit

/-- The number that names a process and says whether it was idle. -/
def plc (p : Int) (f : Nat) : Nat := 2 * (if 0 ≤ p then p.toNat else 9223372036854775807) + f

theorem plc_lt (p : Int) (f : Nat) (hp : p ≤ 9223372036854775807) (hf : f ≤ 1) : plc p f < 18446744073709551616 := by unfold plc; split <;> omega

theorem or_low (x : Int) (h0 : 0 ≤ x) (h1 : x < 9223372036854775808) (f : Int) (hf0 : 0 ≤ f) (hf : f < 2) : bits .or .u64 (x * 2) f = x * 2 + f :=
  bits_join .u64 64 (by decide) wraps_u64 1 (x * 2) f (by omega) (by omega) (by omega) hf0 (by omega) (by omega)

set_option maxHeartbeats 1600000 in
theorem place_any (B n : Nat) (p : Int) (hp0 : -9223372036854775808 ≤ p) (h1 : p ≤ 9223372036854775807) (f : Nat) (hf : f ≤ 1) (sv : Value) (xs : List Value) (w : World) (hown : w.ownsRow B 5 1 sv n xs) (hBw : B ≤ w.heap.size) (hlim : n + 10 ≤ 140737488355328) :
    Calls Yba.prog 13 #[sv, .int .i64 p, .int .u64 1, .int .u64 f] w fun e w' => ∃ v', e = .returned v' ∧ w'.ownsRow B 5 1 v' (n + (Lib.uvarint (plc p f)).length) (xs ++ Lib.byteCells (Lib.uvarint (plc p f))) ∧ Fr B w w' := by
  have hU := uvar_any B n (plc p f) (plc_lt p f h1 hf) sv xs w hown hBw hlim
  have hq : ((f : Int) / 2 != 0) = false := by rw [bne_eq_false_iff_eq]; omega
  by_cases h0 : 0 ≤ p
  · have e : ((plc p f : Nat) : Int) = bits .or .u64 (p * 2) f := by
      rw [or_low p h0 (by omega) f (by omega) (by omega)]
      unfold plc; rw [if_pos h0]; omega
    rw [e] at hU
    clear e
    go_enter Yba.func13, Yba.ntmps13
    go_wp2_with (go_at_call 9; refine hU.mono ?_; rintro e w1 ⟨v1, rfl, ho1, hb1⟩)
    go_ret
    exact ⟨v1, rfl, ho1, hb1⟩
  · have e : ((plc p f : Nat) : Int) = bits .or .u64 18446744073709551614 f := by
      have := or_low 9223372036854775807 (by omega) (by omega) f (by omega) (by omega)
      rw [show (9223372036854775807 : Int) * 2 = 18446744073709551614 from rfl] at this
      rw [this]
      unfold plc; rw [if_neg h0]; omega
    rw [e] at hU
    clear e
    go_enter Yba.func13, Yba.ntmps13
    go_wp2_with (go_at_call 9; refine hU.mono ?_; rintro e w1 ⟨v1, rfl, ho1, hb1⟩)
    go_ret
    exact ⟨v1, rfl, ho1, hb1⟩

end Go.Proofs.Ybulktza.lawS1014AExact
