import Derived.Test.YbulkuacOrd
namespace Go.Proofs.Ybulkuac
open Go Ieee

theorem bound_of_mul {x d c : Rat} (h1 : x * d ≤ c) (h2 : -c ≤ x * d) (hd : 1 ≤ d) : x ≤ c ∧ -c ≤ x := by
  have key : ∀ y : Rat, 0 ≤ y → y * d ≤ c → y ≤ c := by
    intro y hy h
    have := Rat.mul_le_mul_of_nonneg_left hd hy
    grind
  rcases Rat.le_total (a := 0) (b := x) with h | h
  · have := key x h h1
    constructor <;> grind
  · have := key (-x) (by grind) (by grind)
    constructor <;> grind

/-- The share that the kept successes give. -/
theorem kept_alg {t f F2 P N Dn q kept nn kf dd q2 got : Rat}
    (ht0 : 0 ≤ t) (ht1 : t ≤ 95 / 100) (hf0 : 0 ≤ f)
    (a1 : F2 ≤ f + 2 + 1 / 10000000000000) (a2 : f + 2 ≤ F2 + 1 / 10000000000000)
    (b1 : P ≤ t * F2 + 1 / 10000000000000) (b2 : t * F2 ≤ P + 1 / 10000000000000)
    (c1 : N ≤ P - 1 + 1 / 10000000000000) (c2 : P - 1 ≤ N + 1 / 10000000000000)
    (d1 : Dn ≤ 1 - t + 1 / 10000000000000) (d2 : 1 - t ≤ Dn + 1 / 10000000000000)
    (e0 : q * Dn = N) (e1 : kept ≤ q + 9 / 10000000000000) (e2 : q ≤ kept + 9 / 10000000000000)
    (hk : 0 ≤ kept) (hq : q ≤ 800)
    (g1 : nn ≤ kept + 1 + 9 / 10000000000000) (g2 : kept + 1 ≤ nn + 9 / 10000000000000)
    (i1 : kf ≤ kept + f + 9 / 10000000000000) (i2 : kept + f ≤ kf + 9 / 10000000000000)
    (j1 : dd ≤ kf + 2 + 9 / 10000000000000) (j2 : kf + 2 ≤ dd + 9 / 10000000000000)
    (k0 : q2 * dd = nn) (k1 : got ≤ q2 + 9 / 10000000000000) (k2 : q2 ≤ got + 9 / 10000000000000) :
    got ≤ t + 1 / 5000000000 ∧ t ≤ got + 1 / 5000000000 := by
  -- t * F2 near t * (f + 2)
  have m1 : t * F2 ≤ t * (f + 2 + 1 / 10000000000000) := Rat.mul_le_mul_of_nonneg_left a1 ht0
  have m2 : t * (f + 2) ≤ t * (F2 + 1 / 10000000000000) := Rat.mul_le_mul_of_nonneg_left a2 ht0
  have m3 : N ≤ t * (f + 2) - 1 + 3 / 10000000000000 := by grind
  have m4 : t * (f + 2) - 1 ≤ N + 3 / 10000000000000 := by grind
  -- kept * (1 - t) near N
  have hk2 : kept ≤ 801 := by grind
  have n1 : kept * Dn ≤ kept * (1 - t + 1 / 10000000000000) := Rat.mul_le_mul_of_nonneg_left d1 hk
  have n2 : kept * (1 - t) ≤ kept * (Dn + 1 / 10000000000000) := Rat.mul_le_mul_of_nonneg_left d2 hk
  have hDn0 : 0 ≤ Dn := by grind
  have hDn1 : Dn ≤ 2 := by grind
  have o1 : kept * Dn ≤ (q + 9 / 10000000000000) * Dn := Rat.mul_le_mul_of_nonneg_right e1 hDn0
  have o2 : q * Dn ≤ (kept + 9 / 10000000000000) * Dn := Rat.mul_le_mul_of_nonneg_right e2 hDn0
  have p1 : kept * (1 - t) ≤ N + 850 / 10000000000000 := by grind
  have p2 : N ≤ kept * (1 - t) + 850 / 10000000000000 := by grind
  -- the numerator against t times the denominator
  have hdd : 1 ≤ dd := by grind
  have r1 : t * dd ≤ t * (kept + f + 2 + 18 / 10000000000000) := Rat.mul_le_mul_of_nonneg_left (by grind) ht0
  have r2 : t * (kept + f + 2) ≤ t * (dd + 18 / 10000000000000) := Rat.mul_le_mul_of_nonneg_left (by grind) ht0
  have s1 : (q2 - t) * dd ≤ 1000 / 10000000000000 := by grind
  have s2 : -(1000 / 10000000000000) ≤ (q2 - t) * dd := by grind
  have := bound_of_mul s1 s2 hdd
  constructor <;> grind

/-- The share that the added failures give. -/
theorem none_alg {t q w f nn kf dd q2 got : Rat}
    (ht0 : 0 ≤ t) (ht1 : t ≤ 95 / 100)
    (a0 : q * t = 1) (a1 : w ≤ q + 1 / 10000000000000) (a2 : q ≤ w + 1 / 10000000000000)
    (b1 : f ≤ w - 2 + 1 / 10000000000000) (b2 : w - 2 ≤ f + 1 / 10000000000000)
    (g1 : nn ≤ 0 + 1 + 1 / 10000000000000) (g2 : 0 + 1 ≤ nn + 1 / 10000000000000)
    (i1 : kf ≤ 0 + f + 1 / 10000000000000) (i2 : 0 + f ≤ kf + 1 / 10000000000000)
    (j1 : dd ≤ kf + 2 + 1 / 10000000000000) (j2 : kf + 2 ≤ dd + 1 / 10000000000000)
    (k0 : q2 * dd = nn) (k1 : got ≤ q2 + 1 / 10000000000000) (k2 : q2 ≤ got + 1 / 10000000000000) (hd : 1 ≤ dd) :
    got ≤ t + 1 / 5000000000 ∧ t ≤ got + 1 / 5000000000 := by
  have r1 : t * dd ≤ t * (q + 4 / 10000000000000) := Rat.mul_le_mul_of_nonneg_left (by grind) ht0
  have r2 : t * q ≤ t * (dd + 4 / 10000000000000) := Rat.mul_le_mul_of_nonneg_left (by grind) ht0
  have s1 : (q2 - t) * dd ≤ 1000 / 10000000000000 := by grind
  have s2 : -(1000 / 10000000000000) ≤ (q2 - t) * dd := by grind
  have := bound_of_mul s1 s2 hd
  constructor <;> grind

end Go.Proofs.Ybulkuac
