import Derived.Test.YbulkuacLeafC
import Derived.Test.YbulkuacWhole
namespace Go.Proofs.Ybulkuac
open Go.RowKit
set_option linter.unusedVariables false

theorem andnot_high (x : Nat) (h : x < 2 ^ 64) : (BitVec.ofInt 64 (x : Int) &&& ~~~(BitVec.ofInt 64 9223372036854775808)).toNat = x % 2 ^ 63 := by
  have e : ~~~(BitVec.ofInt 64 9223372036854775808) = BitVec.ofNat 64 (2 ^ 63 - 1) := by decide
  rw [e, BitVec.toNat_and, BitVec.toNat_ofNat]
  have e2 : (BitVec.ofInt 64 (x : Int)).toNat = x := by
    rw [BitVec.ofInt_natCast, BitVec.toNat_ofNat, Nat.mod_eq_of_lt h]
  rw [e2, show (2 ^ 63 - 1) % 2 ^ 64 = 2 ^ 63 - 1 from by decide, Nat.and_two_pow_sub_one_eq_mod]

theorem bits_andnot (x : Nat) (h : x < 2 ^ 64) : bits .andNot .u64 (x : Int) 9223372036854775808 = ((x % 2 ^ 63 : Nat) : Int) := by
  have e := andnot_high x h
  have hlt : x % 2 ^ 63 < 2 ^ 63 := Nat.mod_lt _ (by decide)
  have hw : IntKind.u64.wrap ((x % 2 ^ 63 : Nat) : Int) = ((x % 2 ^ 63 : Nat) : Int) := by
    rw [IntKind.wrap_u64]; omega
  have : bits .andNot .u64 (x : Int) 9223372036854775808 = IntKind.u64.wrap ((BitVec.ofInt 64 (x : Int) &&& ~~~(BitVec.ofInt 64 9223372036854775808)).toNat : Int) := rfl
  rw [this, e, hw]

set_option maxHeartbeats 1600000 in
set_option maxRecDepth 100000 in
theorem abs_call (x : Nat) (h : x < 2 ^ 64) (w : World) :
    Calls Yba.prog 15 #[.float .f64 x] w fun e w' => e = .returned (.float .f64 (x % 2 ^ 63)) ∧ w' = w := by
  have g1 := ext_bits x
  have g3 := ext_from (bits .andNot .u64 (x : Int) 9223372036854775808)
  have e := bits_andnot x h
  rw [show (bits .andNot .u64 (x : Int) 9223372036854775808).toNat = x % 2 ^ 63 from by rw [e]; rfl] at g3
  clear e
  generalize x % 2 ^ 63 = y at *
  go_enter Yba.func15, Yba.ntmps15
  go_wp2
  go_ret
  exact ⟨rfl, rfl⟩

theorem abs_val {x : Nat} {v : Rat} (h : Vl x v) : Vl (x % 2 ^ 63) v ∨ Vl (x % 2 ^ 63) (-v) := by
  obtain ⟨s, m, p, hr, rfl⟩ := h
  have hsw : Ieee.double.signWeight = 2 ^ 63 := by decide
  have key : Ieee.double.read (x % 2 ^ 63) = .number false m p := by
    unfold Ieee.Format.read at hr ⊢
    rw [hsw] at hr ⊢
    dsimp only at hr ⊢
    have e1 : x % 2 ^ 63 / 2 ^ 63 = 0 := Nat.div_eq_of_lt (Nat.mod_lt _ (by decide))
    rw [e1, Nat.mod_mod]
    split at hr
    · rename_i g
      rw [if_pos g]
      injection hr with a b c
      rw [b, c]
      rfl
    · rename_i g
      rw [if_neg g]
      split at hr
      · rename_i g2
        rw [if_pos g2]
        injection hr with a b c
        rw [b, c]
        rfl
      · split at hr <;> cases hr
  cases s
  · exact .inl ⟨false, m, p, key, rfl⟩
  · right
    refine ⟨false, m, p, key, ?_⟩
    show -(-(mval m p)) = mval m p
    grind

/-- The law's last test, passed. -/
theorem okd_test {g w : Nat} (h : Okd g w) : ∃ e, Ieee.double.sub g w = some e ∧ e < 2 ^ 64 ∧ leB (e % 2 ^ 63) nanoB = true := by
  obtain ⟨e, ε, he, hv, h1, h2⟩ := h
  obtain ⟨μ, hμ, h3⟩ := vl_nano
  refine ⟨e, he, Ieee.Format.sub_lt _ he, ?_⟩
  rcases abs_val hv with g | g
  · exact leB_val g hμ (by grind)
  · exact leB_val g hμ (by grind)

end Go.Proofs.Ybulkuac
