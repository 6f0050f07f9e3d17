import Derived.Test.YbulkuacErr
namespace Go.Proofs.Ybulkuac
open Go Ieee

theorem quot_alg {n N W u Q z Z : Rat} (hnR : 0 < n) (hupos : 0 < u) (u2 : 0 < z) (hz : Z * z = 1) (hQ2 : Q * n = N * (2 * u))
    (r1 : W * n ≤ 2 * N + n) (r2 : 2 * N ≤ W * n + n) (r3 : Z * n ≤ N) : W * u ≤ Q + Q * z ∧ Q ≤ W * u + Q * z := by
  have k1 : (Z * n) * z ≤ N * z := Rat.mul_le_mul_of_nonneg_right r3 (Rat.le_of_lt u2)
  have k0 : (Z * n) * z = n := by
    have : (Z * n) * z = (Z * z) * n := by grind
    rw [this, hz, Rat.one_mul]
  rw [k0] at k1
  have k3 : n * u ≤ N * z * u := Rat.mul_le_mul_of_nonneg_right k1 (Rat.le_of_lt hupos)
  have g1 : (W * n) * u ≤ (2 * N + n) * u := Rat.mul_le_mul_of_nonneg_right r1 (Rat.le_of_lt hupos)
  have g2 : (2 * N) * u ≤ (W * n + n) * u := Rat.mul_le_mul_of_nonneg_right r2 (Rat.le_of_lt hupos)
  have hnn : 0 ≤ n * u := Rat.mul_nonneg (Rat.le_of_lt hnR) (Rat.le_of_lt hupos)
  have e5 : (Q * z) * n = 2 * (N * z * u) := by
    have : (Q * z) * n = (Q * n) * z := by grind
    rw [this, hQ2]
    grind
  clear hz k0 r1 r2 r3 k1
  have f0 : n * u ≤ (Q * z) * n := by
    rw [e5]; grind
  have f1 : (W * u) * n ≤ (Q + Q * z) * n := by
    have : (W * u) * n = W * n * u := by grind
    have h2 : (Q + Q * z) * n = Q * n + (Q * z) * n := by grind
    rw [this, h2, hQ2]
    clear hQ2 e5
    generalize Q * z * n = A at *
    grind
  have f2 : Q * n ≤ (W * u + Q * z) * n := by
    have h2 : (W * u + Q * z) * n = W * n * u + (Q * z) * n := by grind
    rw [h2, hQ2]
    clear hQ2 e5
    generalize Q * z * n = A at *
    grind
  exact ⟨Rat.le_of_mul_le_mul_right f1 hnR, Rat.le_of_mul_le_mul_right f2 hnR⟩

/-- The quotient's digits are near the quotient. -/
theorem quot_near (m n : Nat) (i j : Int) (hn : n ≠ 0) (more : Nat) (hmore : more = 54 + n.log2 - m.log2) (Q : Rat) (hQ : Q * mval n j = mval m i) :
    mval (2 * ((m <<< more) / n) + ((m <<< more) % n != 0).toNat) (i - j - more - 1) ≤ Q + Q * zp (-53) ∧
    Q ≤ mval (2 * ((m <<< more) / n) + ((m <<< more) % n != 0).toNat) (i - j - more - 1) + Q * zp (-53) := by
  rw [Nat.shiftLeft_eq]
  have hn0 : 0 < n := Nat.pos_of_ne_zero hn
  have hd := Nat.div_add_mod (m * 2 ^ more) n
  have hm := Nat.mod_lt (m * 2 ^ more) hn0
  have hnR : (0 : Rat) < (n : Rat) := by
    have : ((0 : Nat) : Rat) < (n : Rat) := Rat.natCast_lt_natCast.2 hn0
    exact this
  -- the unit
  obtain ⟨u, hu⟩ : ∃ u, u = zp (i - j - more - 1) := ⟨_, rfl⟩
  have hupos : 0 < u := by rw [hu]; exact zp_pos _
  have e1 : zp i = zp j * (((2 ^ more : Nat) : Rat) * (2 * u)) := by
    rw [hu, ← zp_one, ← zp_nat, ← zp_add, ← zp_add, ← zp_add]
    congr 1; omega
  have hj := zp_pos j
  have hQ2 : Q * (n : Rat) = ((m * 2 ^ more : Nat) : Rat) * (2 * u) := by
    unfold mval at hQ
    rw [e1] at hQ
    rw [Rat.natCast_mul]
    have h : (Q * (n : Rat)) * zp j = ((m : Rat) * ((2 ^ more : Nat) : Rat) * (2 * u)) * zp j := by grind
    have hz : zp j ≠ 0 := by grind
    grind
  have hbig : m ≠ 0 → 2 ^ 53 * n ≤ m * 2 ^ more := by
    intro h0
    have hL1 : 2 ^ m.log2 ≤ m := Nat.log2_self_le h0
    have hL2 : n < 2 ^ (n.log2 + 1) := Nat.lt_log2_self
    calc 2 ^ 53 * n ≤ 2 ^ 53 * 2 ^ (n.log2 + 1) := Nat.mul_le_mul_left _ (Nat.le_of_lt hL2)
      _ = 2 ^ (53 + (n.log2 + 1)) := (Nat.pow_add 2 53 (n.log2 + 1)).symm
      _ ≤ 2 ^ (m.log2 + more) := Nat.pow_le_pow_right (by decide) (by omega)
      _ = 2 ^ m.log2 * 2 ^ more := Nat.pow_add 2 m.log2 more
      _ ≤ _ := Nat.mul_le_mul_right _ hL1
  have hmz : m = 0 → m * 2 ^ more = 0 := by intro h; rw [h, Nat.zero_mul]
  generalize m * 2 ^ more = N at *
  have hst : ((N % n != 0).toNat = 0 ∧ N % n = 0) ∨ ((N % n != 0).toNat = 1 ∧ 0 < N % n) := by
    by_cases h : N % n = 0
    · left; simp [h]
    · right; simp [h]; omega
  generalize (N % n != 0).toNat = b at *
  -- 2 * q + b is within one of 2 * N / n
  have c1 : (2 * (N / n) + b) * n ≤ 2 * N + n := by
    have : (2 * (N / n) + b) * n = 2 * (n * (N / n)) + b * n := by
      rw [Nat.add_mul, Nat.mul_assoc, Nat.mul_comm (N / n) n]
    rw [this]
    rcases hst with ⟨hb, hr⟩ | ⟨hb, hr⟩ <;> subst hb <;> omega
  have c2 : 2 * N ≤ (2 * (N / n) + b) * n + n := by
    have : (2 * (N / n) + b) * n = 2 * (n * (N / n)) + b * n := by
      rw [Nat.add_mul, Nat.mul_assoc, Nat.mul_comm (N / n) n]
    rw [this]
    rcases hst with ⟨hb, hr⟩ | ⟨hb, hr⟩ <;> subst hb <;> omega
  have c3 : N = 0 → 2 * (N / n) + b = 0 := by
    intro h
    subst h
    rw [Nat.zero_div]
    rcases hst with ⟨hb, hr⟩ | ⟨hb, hr⟩
    · omega
    · rw [Nat.zero_mod] at hr; omega
  unfold mval
  rw [← hu]
  generalize hW : 2 * (N / n) + b = W at *
  have u2 : 0 < zp (-53) := zp_pos _
  by_cases h0 : m = 0
  · have hN := hmz h0
    have hW0 := c3 hN
    rw [hN] at hQ2
    rw [hW0]
    have z : ((0 : Nat) : Rat) = 0 := rfl
    rw [z] at hQ2 ⊢
    have : Q = 0 := by grind
    rw [this]
    constructor <;> grind
  · have hB := hbig h0
    have r1 : ((W * n : Nat) : Rat) ≤ ((2 * N + n : Nat) : Rat) := Rat.natCast_le_natCast.2 c1
    have r2 : ((2 * N : Nat) : Rat) ≤ ((W * n + n : Nat) : Rat) := Rat.natCast_le_natCast.2 c2
    have r3 : ((2 ^ 53 * n : Nat) : Rat) ≤ (N : Rat) := Rat.natCast_le_natCast.2 hB
    rw [Rat.natCast_mul, Rat.natCast_add, Rat.natCast_mul] at r1
    rw [Rat.natCast_add, Rat.natCast_mul, Rat.natCast_mul] at r2
    rw [Rat.natCast_mul, ← zp_nat] at r3
    have two : ((2 : Nat) : Rat) = 2 := rfl
    rw [two] at r1 r2
    have hz := zp_neg 53
    have e53 : ((53 : Nat) : Int) = 53 := rfl
    rw [e53] at r3
    have neg53 : (-(53 : Int)) = -53 := rfl
    rw [neg53] at hz
    exact quot_alg hnR hupos u2 hz hQ2 r1 r2 r3

end Go.Proofs.Ybulkuac
