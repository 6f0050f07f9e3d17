import Derived.Test.YbulkuacFloat
namespace Go.Proofs.Ybulkuac
open Go Ieee

/-- 2^p. -/
def zp (p : Int) : Rat := (2 : Rat) ^ p

theorem zp_pos (p : Int) : 0 < zp p := Rat.zpow_pos (by decide)
theorem zp_add (p q : Int) : zp (p + q) = zp p * zp q := Rat.zpow_add (by decide) p q
theorem zp_zero : zp 0 = 1 := by unfold zp; exact Rat.zpow_zero 2
theorem zp_nat (n : Nat) : zp (n : Int) = ((2 ^ n : Nat) : Rat) := by
  unfold zp; rw [Rat.zpow_natCast, Rat.natCast_pow]; rfl
theorem zp_neg (p : Int) : zp p * zp (-p) = 1 := by rw [← zp_add, Int.add_right_neg, zp_zero]
theorem zp_nat_ge (n : Nat) : 1 ≤ zp (n : Int) := by
  rw [zp_nat]
  have : ((1 : Nat) : Rat) ≤ ((2 ^ n : Nat) : Rat) := Rat.natCast_le_natCast.2 (Nat.two_pow_pos n)
  exact this
theorem zp_one : zp 1 = 2 := by unfold zp; exact Rat.zpow_one 2
theorem zp_mono {p q : Int} (h : p ≤ q) : zp p ≤ zp q := by
  have e : zp q = zp p * zp ((q - p).toNat : Int) := by
    rw [← zp_add]; congr 1; omega
  have h1 := zp_nat_ge (q - p).toNat
  have h2 := zp_pos p
  have h3 := Rat.mul_le_mul_of_nonneg_left h1 (Rat.le_of_lt h2)
  rw [e]
  grind

/-- Rounding to a whole number: at most half a unit off. -/
theorem cut_spec (neg : Bool) (n D : Nat) : 2 * (Toward.even.cut neg n D * 2 ^ D) ≤ 2 * n + 2 ^ D ∧ 2 * n ≤ 2 * (Toward.even.cut neg n D * 2 ^ D) + 2 ^ D := by
  unfold Toward.cut
  by_cases h : D ≤ n.log2 + 2
  · rw [Nat.min_eq_left h]
    have e1 : (1 <<< D : Nat) = 2 ^ D := by rw [Nat.shiftLeft_eq, Nat.one_mul]
    simp only [e1]
    have hp := Nat.two_pow_pos D
    have hd := Nat.div_add_mod n (2 ^ D)
    have hm := Nat.mod_lt n hp
    generalize 2 ^ D = B at *
    generalize n / B = q at *
    generalize n % B = r at *
    have hb : ((decide (B < 2 * r) || (B == 2 * r && q % 2 == 1)) = true → B ≤ 2 * r) ∧ ((decide (B < 2 * r) || (B == 2 * r && q % 2 == 1)) = false → 2 * r ≤ B) := by
      constructor
      · intro h; simp at h; omega
      · intro h; simp at h; omega
    generalize (decide (B < 2 * r) || (B == 2 * r && q % 2 == 1)) = b at *
    have e2 : B * q = q * B := Nat.mul_comm _ _
    cases b
    · have := hb.2 rfl
      simp only [Bool.toNat_false, Nat.add_zero]
      omega
    · have := hb.1 rfl
      simp only [Bool.toNat_true]
      rw [Nat.add_mul, Nat.one_mul]
      omega
  · rw [Nat.min_eq_right (by omega)]
    have e1 : (1 <<< (n.log2 + 2) : Nat) = 2 ^ (n.log2 + 2) := by rw [Nat.shiftLeft_eq, Nat.one_mul]
    simp only [e1]
    have hlt : n < 2 ^ (n.log2 + 1) := Nat.lt_log2_self
    have e2 : 2 ^ (n.log2 + 2) = 2 * 2 ^ (n.log2 + 1) := by rw [Nat.pow_succ 2 (n.log2 + 1), Nat.mul_comm]
    have hD : 2 ^ (n.log2 + 2) ≤ 2 ^ D := Nat.pow_le_pow_right (by decide) (by omega)
    have q0 : n / 2 ^ (n.log2 + 2) = 0 := Nat.div_eq_of_lt (by omega)
    have r0 : n % 2 ^ (n.log2 + 2) = n := Nat.mod_eq_of_lt (by omega)
    rw [q0, r0]
    have hb : (decide (2 ^ (n.log2 + 2) < 2 * n) || (2 ^ (n.log2 + 2) == 2 * n && 0 % 2 == 1)) = false := by
      simp; omega
    rw [hb]
    simp only [Bool.toNat_false, Nat.add_zero, Nat.zero_mul]
    omega

/-- What a finite rung stands for. -/
theorem read_rung (neg : Bool) (R : Nat) (h : R < 2047 * 2 ^ 52) :
    Ieee.double.read (Ieee.double.word neg R) = if R < 2 ^ 52 then .number neg R (-1074) else .number neg (2 ^ 52 + R % 2 ^ 52) (-1074 + ((R / 2 ^ 52 - 1 : Nat) : Int)) := by
  have hsw : Ieee.double.signWeight = 2048 * 2 ^ 52 := by decide
  have hleast : Ieee.double.leastPlace = -1074 := by decide
  have hinf : Ieee.double.infRung = 2047 * 2 ^ 52 := by decide
  have hbin : Ieee.double.binade = 2 ^ 52 := by decide
  have hBp : 0 < (2 : Nat) ^ 52 := Nat.two_pow_pos _
  unfold Format.read Format.word
  rw [hsw, hinf, hbin, hleast]
  generalize (2 : Nat) ^ 52 = B at h hBp ⊢
  have hlt : R < 2048 * B := by omega
  have hneg : ((if neg = true then 2048 * B + R else R) / (2048 * B) % 2 == 1) = neg ∧ (if neg = true then 2048 * B + R else R) % (2048 * B) = R := by
    have hpos : 0 < 2048 * B := by omega
    cases neg
    · simp [Nat.div_eq_of_lt hlt, Nat.mod_eq_of_lt hlt]
    · have e1 : (2048 * B + R) / (2048 * B) = 1 := by
        rw [Nat.add_comm, Nat.add_div_right _ hpos, Nat.div_eq_of_lt hlt]
      have e2 : (2048 * B + R) % (2048 * B) = R := by
        rw [Nat.add_comm, Nat.add_mod_right, Nat.mod_eq_of_lt hlt]
      simp [e1, e2]
  dsimp only
  rw [hneg.1, hneg.2]
  split
  · rfl
  · rfl

/-- The number that a datum is, without its sign. -/
def mval (m : Nat) (p : Int) : Rat := (m : Rat) * zp p

theorem mval_shift (m k : Nat) (p : Int) : mval (m * 2 ^ k) p = mval m (p + k) := by
  unfold mval
  rw [Rat.natCast_mul, zp_add, zp_nat, Rat.mul_assoc, Rat.mul_comm (zp p)]

/-- ROUNDING TO NEAREST: the number read back is near. -/
theorem nearest_spec (neg : Bool) (mag : Nat) (place : Int) (hz : mval mag place ≤ zp 1000) :
    ∃ m p, Ieee.double.read (Ieee.double.nearest neg mag place) = .number neg m p ∧
      mval m p ≤ mval mag place + (mval mag place * zp (-53) + zp (-1075)) ∧ mval mag place ≤ mval m p + (mval mag place * zp (-53) + zp (-1075)) := by
  by_cases h0 : mag = 0
  · subst h0
    refine ⟨0, -1074, ?_, ?_, ?_⟩
    · unfold Format.nearest
      rw [if_pos rfl, read_rung neg 0 (by decide)]
      rfl
    all_goals
      have := zp_pos (-1075)
      unfold mval
      grind
  · have hL1 : 2 ^ mag.log2 ≤ mag := Nat.log2_self_le h0
    have hL2 : mag < 2 ^ (mag.log2 + 1) := Nat.lt_log2_self
    obtain ⟨L, hL⟩ : ∃ L, L = mag.log2 := ⟨_, rfl⟩
    rw [← hL] at hL1 hL2
    have hLp : (L : Int) + place ≤ 1000 := by
      by_cases h : (L : Int) + place ≤ 1000
      · exact h
      · have h1 : zp 1001 ≤ zp ((L : Int) + place) := zp_mono (by omega)
        have h2 : zp ((L : Int) + place) ≤ mval mag place := by
          unfold mval
          rw [zp_add, zp_nat]
          exact Rat.mul_le_mul_of_nonneg_right (Rat.natCast_le_natCast.2 hL1) (Rat.le_of_lt (zp_pos _))
        have h3 : zp 1001 = zp 1000 * zp 1 := by rw [← zp_add]; rfl
        have h4 : zp 1 = 2 := zp_one
        have h5 := zp_pos 1000
        rw [h4] at h3
        have h6 : zp 1001 ≤ zp 1000 := Rat.le_trans h1 (Rat.le_trans h2 hz)
        clear h1 h2 hz
        grind
    clear hz
    have hzL : zp ((L : Int) + place) ≤ mval mag place := by
      unfold mval
      rw [zp_add, zp_nat]
      exact Rat.mul_le_mul_of_nonneg_right (Rat.natCast_le_natCast.2 hL1) (Rat.le_of_lt (zp_pos _))
    have hleast : Ieee.double.leastPlace = -1074 := by decide
    have hfb : (Ieee.double.fractionBits : Int) = 52 := by decide
    have hinf : Ieee.double.infRung = 2047 * 2 ^ 52 := by decide
    have hbin : Ieee.double.binade = 2 ^ 52 := by decide
    unfold Format.nearest
    rw [if_neg h0, ← hL, hleast, hfb]
    dsimp only
    rw [hbin, hinf]
    obtain ⟨last, hlast⟩ : ∃ last, last = max (place + (L : Int) - 52) (-1074) := ⟨_, rfl⟩
    rw [← hlast]
    have hl1 : place + (L : Int) - 52 ≤ last := by omega
    have hl2 : -1074 ≤ last := by omega
    have hl3 : last = place + (L : Int) - 52 ∨ last = -1074 := by omega
    have hl4 : last ≤ 948 := by omega
    clear hlast
    obtain ⟨up, hup⟩ : ∃ up, up = (place - last).toNat := ⟨_, rfl⟩
    obtain ⟨D, hD⟩ : ∃ D, D = (last - place).toNat := ⟨_, rfl⟩
    obtain ⟨X, hX⟩ : ∃ X, X = (last - -1074).toNat := ⟨_, rfl⟩
    rw [← hup, ← hD, ← hX, Nat.shiftLeft_eq]
    have hcut := cut_spec neg (mag * 2 ^ up) D
    generalize Toward.even.cut neg (mag * 2 ^ up) D = K at hcut ⊢
    have hA := Nat.two_pow_pos D
    have hup1 : mag * 2 ^ up < 2 ^ 53 * 2 ^ D := by
      calc mag * 2 ^ up < 2 ^ (L + 1) * 2 ^ up := Nat.mul_lt_mul_of_pos_right hL2 (Nat.two_pow_pos _)
        _ = 2 ^ (L + 1 + up) := (Nat.pow_add 2 (L + 1) up).symm
        _ ≤ 2 ^ (53 + D) := Nat.pow_le_pow_right (by decide) (by omega)
        _ = 2 ^ 53 * 2 ^ D := by rw [Nat.pow_add]
    have h53 : (2 : Nat) ^ 53 = 2 * 2 ^ 52 := by rw [Nat.pow_succ, Nat.mul_comm]
    have hKhi : K ≤ 2 ^ 53 := by
      have h1 : 2 * (K * 2 ^ D) < 2 * (2 ^ 53 * 2 ^ D) + 2 ^ D := by omega
      generalize 2 ^ D = A at *
      generalize (2 : Nat) ^ 53 = M at *
      rcases Nat.lt_or_ge M K with h | h
      · have h2 : (M + 1) * A ≤ K * A := Nat.mul_le_mul_right _ h
        rw [Nat.add_mul, Nat.one_mul] at h2
        omega
      · exact h
    have hKlo : last = place + (L : Int) - 52 → 2 ^ 52 ≤ K := by
      intro hl
      have h1 : 2 ^ 52 * 2 ^ D ≤ mag * 2 ^ up := by
        calc 2 ^ 52 * 2 ^ D = 2 ^ (L + up) := by rw [← Nat.pow_add]; congr 1; omega
          _ = 2 ^ L * 2 ^ up := by rw [Nat.pow_add]
          _ ≤ _ := Nat.mul_le_mul_right _ hL1
      have h2 : 2 * (2 ^ 52 * 2 ^ D) ≤ 2 * (K * 2 ^ D) + 2 ^ D := by omega
      generalize 2 ^ D = A at *
      generalize (2 : Nat) ^ 52 = M at *
      rcases Nat.lt_or_ge K M with h | h
      · have h3 : (K + 1) * A ≤ M * A := Nat.mul_le_mul_right _ h
        rw [Nat.add_mul, Nat.one_mul] at h3
        omega
      · exact h
    have hXle : X ≤ 2022 := by omega
    have hX0 : K < 2 ^ 52 → X = 0 := by
      intro h
      rcases hl3 with h3 | h3
      · have := hKlo h3; omega
      · omega
    have hRlt : X * 2 ^ 52 + K < 2047 * 2 ^ 52 := by
      have h1 : X * 2 ^ 52 ≤ 2022 * 2 ^ 52 := Nat.mul_le_mul_right _ hXle
      rw [h53] at hKhi
      have hBp : 0 < (2 : Nat) ^ 52 := Nat.two_pow_pos _
      generalize (2 : Nat) ^ 52 = B at *
      omega
    rw [Nat.min_eq_left (Nat.le_of_lt hRlt), read_rung neg _ hRlt]
    have hval : ∃ m p, (if X * 2 ^ 52 + K < 2 ^ 52 then Datum.number neg (X * 2 ^ 52 + K) (-1074) else .number neg (2 ^ 52 + (X * 2 ^ 52 + K) % 2 ^ 52) (-1074 + (((X * 2 ^ 52 + K) / 2 ^ 52 - 1 : Nat) : Int))) = .number neg m p ∧ mval m p = mval K last := by
      have hBp : 0 < (2 : Nat) ^ 52 := Nat.two_pow_pos _
      by_cases hc : K < 2 ^ 52
      · have hx := hX0 hc
        subst hx
        refine ⟨K, -1074, ?_, ?_⟩
        · rw [Nat.zero_mul, Nat.zero_add, if_pos hc]
        · congr 1; omega
      · by_cases hc2 : K = 2 ^ 53
        · refine ⟨2 ^ 52, last + 1, ?_, ?_⟩
          · have e : X * 2 ^ 52 + K = (X + 2) * 2 ^ 52 := by rw [hc2, h53, Nat.add_mul]
            have hge : ¬ (X + 2) * 2 ^ 52 < 2 ^ 52 := by
              have : 2 * 2 ^ 52 ≤ (X + 2) * 2 ^ 52 := Nat.mul_le_mul_right _ (by omega)
              generalize (2 : Nat) ^ 52 = B at *
              omega
            rw [e, if_neg hge, Nat.mul_mod_left, Nat.mul_div_cancel _ hBp, Nat.add_zero]
            congr 1
            omega
          · have := mval_shift (2 ^ 52) 1 last
            rw [hc2, Nat.pow_succ]
            simpa using this.symm
        · refine ⟨K, last, ?_, rfl⟩
          have hklt : K < 2 * 2 ^ 52 := by omega
          have e : X * 2 ^ 52 + K = (K - 2 ^ 52) + (X + 1) * 2 ^ 52 := by
            rw [Nat.add_mul, Nat.one_mul]
            generalize (2 : Nat) ^ 52 = B at *
            omega
          have hr : K - 2 ^ 52 < 2 ^ 52 := by
            generalize (2 : Nat) ^ 52 = B at *
            omega
          have hge : ¬ (K - 2 ^ 52) + (X + 1) * 2 ^ 52 < 2 ^ 52 := by
            have : 1 * 2 ^ 52 ≤ (X + 1) * 2 ^ 52 := Nat.mul_le_mul_right _ (by omega)
            generalize (2 : Nat) ^ 52 = B at *
            omega
          rw [e, if_neg hge, Nat.add_mul_mod_self_right, Nat.mod_eq_of_lt hr, Nat.add_mul_div_right _ _ hBp, Nat.div_eq_of_lt hr, Nat.zero_add]
          have e2 : 2 ^ 52 + (K - 2 ^ 52) = K := by
            generalize (2 : Nat) ^ 52 = B at *
            omega
          rw [e2]
          have e3 : (-1074 : Int) + ((X + 1 - 1 : Nat) : Int) = last := by omega
          rw [e3]
    obtain ⟨m, p, hr, hv⟩ := hval
    refine ⟨m, p, hr, ?_⟩
    rw [hv]
    have ez : mval mag place = mval (mag * 2 ^ up) (last - D) := by
      rw [mval_shift]; congr 1; omega
    have ek : mval K last = mval (K * 2 ^ D) (last - D) := by
      rw [mval_shift]; congr 1; omega
    have eD : ((2 ^ D : Nat) : Rat) * zp (last - D) = zp last := by
      rw [← zp_nat, ← zp_add]; congr 1; omega
    have hu := zp_pos (last - D)
    have c1 : ((2 * (K * 2 ^ D) : Nat) : Rat) * zp (last - D) ≤ ((2 * (mag * 2 ^ up) + 2 ^ D : Nat) : Rat) * zp (last - D) := Rat.mul_le_mul_of_nonneg_right (Rat.natCast_le_natCast.2 hcut.1) (Rat.le_of_lt hu)
    have c2 : ((2 * (mag * 2 ^ up) : Nat) : Rat) * zp (last - D) ≤ ((2 * (K * 2 ^ D) + 2 ^ D : Nat) : Rat) * zp (last - D) := Rat.mul_le_mul_of_nonneg_right (Rat.natCast_le_natCast.2 hcut.2) (Rat.le_of_lt hu)
    have hb : zp last ≤ 2 * (mval mag place * zp (-53) + zp (-1075)) := by
      have hz0 : 0 ≤ mval mag place := Rat.mul_nonneg Rat.natCast_nonneg (Rat.le_of_lt (zp_pos _))
      have t1 := zp_pos (-1075)
      have t2 := zp_pos (-53)
      have t3 := Rat.mul_nonneg hz0 (Rat.le_of_lt t2)
      have two1 : zp 1 = 2 := zp_one
      rcases hl3 with h3 | h3
      · have e1 : zp last = zp ((L : Int) + place) * zp (-52) := by rw [← zp_add]; congr 1; omega
        have e2 : zp (-52) = zp (-53) * 2 := by rw [← two1, ← zp_add]; rfl
        have h5 := Rat.mul_le_mul_of_nonneg_right hzL (Rat.le_of_lt (zp_pos (-52)))
        rw [e1]
        rw [e2] at h5 ⊢
        grind
      · have e2 : zp (-1074) = zp (-1075) * 2 := by rw [← two1, ← zp_add]; rfl
        rw [h3, e2]
        grind
    unfold mval at ez ek
    rw [Rat.natCast_add, Rat.natCast_mul 2 (K * 2 ^ D), Rat.natCast_mul 2 (mag * 2 ^ up)] at c1 c2
    have n2 : ((2 : Nat) : Rat) = 2 := rfl
    rw [n2] at c1 c2
    unfold mval at hb ⊢
    constructor <;> grind

end Go.Proofs.Ybulkuac
