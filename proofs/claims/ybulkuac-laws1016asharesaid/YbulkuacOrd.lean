import Derived.Test.YbulkuacDiv
import GoSem.Extern.MathDim
namespace Go.Proofs.Ybulkuac
open Go Ieee

theorem div_near {x y : Nat} {a b : Rat} (M Q : Rat) (hx : Vl x a) (hy : Vl y b) (hb : 0 < b) (hQ : Q * b = a) (h1 : -M ≤ Q) (h2 : Q ≤ M) (hM : 1 ≤ M) (hM2 : M ≤ 900) :
    ∃ r v, Ieee.double.div x y = some r ∧ Vl r v ∧ v ≤ Q + M * (1 / 1000000000000000) ∧ Q ≤ v + M * (1 / 1000000000000000) := by
  obtain ⟨s, m, i, hr, rfl⟩ := hx
  obtain ⟨t, n, j, hr', rfl⟩ := hy
  have hB := mval_nonneg n j
  have ht : t = false := by
    cases t
    · rfl
    · unfold sgn at hb; simp only [if_true] at hb; grind
  subst ht
  have hb2 : sgn false (mval n j) = mval n j := rfl
  rw [hb2] at hb hQ
  have hn : n ≠ 0 := by
    intro h
    subst h
    unfold mval at hb
    have z : ((0 : Nat) : Rat) = 0 := rfl
    rw [z] at hb
    grind
  unfold Format.div
  rw [hr, hr']
  unfold Datum.quotient
  simp only [if_neg hn, Option.map_some]
  have hfb : Ieee.double.fractionBits + 2 = 54 := by decide
  rw [hfb, Bool.xor_false]
  obtain ⟨more, hmore⟩ : ∃ more, more = 54 + n.log2 - m.log2 := ⟨_, rfl⟩
  rw [← hmore]
  have hQ' : sgn s Q * mval n j = mval m i := by
    unfold sgn at hQ ⊢
    cases s
    · simpa using hQ
    · simp only [if_true] at hQ ⊢
      have : -Q * mval n j = -(Q * mval n j) := by grind
      rw [this, hQ]
      grind
  have hq := quot_near m n i j hn more hmore (sgn s Q) hQ'
  have hA := mval_nonneg (2 * ((m <<< more) / n) + ((m <<< more) % n != 0).toNat) (i - j - more - 1)
  have hs : sgn s Q ≤ M := by
    unfold sgn; cases s
    · simpa using h2
    · simp only [if_true]; grind
  have hs0 : 0 ≤ sgn s Q := by
    refine Rat.le_of_mul_le_mul_right (c := mval n j) ?_ hb
    rw [hQ', Rat.zero_mul]
    exact mval_nonneg m i
  have tn := tiny
  have u2 : 0 < zp (-53) := zp_pos _
  have g : sgn s Q * zp (-53) ≤ M * (1 / 4000000000000000) := by
    have a1 := Rat.mul_le_mul_of_nonneg_right hs (Rat.le_of_lt u2)
    have a2 : M * zp (-53) ≤ M * (1 / 4000000000000000) := Rat.mul_le_mul_of_nonneg_left tn (by grind)
    exact Rat.le_trans a1 a2
  obtain ⟨v, hv, ha, hb⟩ := write_near s (2 * ((m <<< more) / n) + ((m <<< more) % n != 0).toNat) (i - j - more - 1) (M + M * (1 / 4000000000000000)) (by grind) (by grind) (by grind)
  refine ⟨_, v, rfl, hv, ?_⟩
  generalize mval (2 * ((m <<< more) / n) + ((m <<< more) % n != 0).toNat) (i - j - more - 1) = R at *
  generalize zp (-53) = z at *
  clear hQ hQ' hv
  unfold sgn at *
  cases s
  · simp only [Bool.false_eq_true, if_false] at *
    constructor <;> grind
  · simp only [if_true] at *
    constructor <;> grind

/-- How two numbers stand to each other. -/
theorem order_val {x y : Nat} {a b : Rat} (hx : Vl x a) (hy : Vl y b) :
    (a < b → Ieee.double.order x y = some .lt) ∧ (a = b → Ieee.double.order x y = some .eq) ∧ (b < a → Ieee.double.order x y = some .gt) := by
  obtain ⟨s, m, i, hr, rfl⟩ := hx
  obtain ⟨t, n, j, hr', rfl⟩ := hy
  unfold Format.order
  rw [hr, hr']
  unfold Datum.order
  dsimp only
  rw [← signed_val s m i (min i j) (by omega), ← signed_val t n j (min i j) (by omega)]
  generalize signed s m (i - min i j).toNat = A
  generalize signed t n (j - min i j).toNat = B
  have hz := zp_pos (min i j)
  refine ⟨fun h => ?_, fun h => ?_, fun h => ?_⟩
  · have : A < B := by
      rcases Int.lt_or_le A B with g | g
      · exact g
      · have := Rat.mul_le_mul_of_nonneg_right (Rat.intCast_le_intCast.2 g) (Rat.le_of_lt hz)
        grind
    rw [Int.compare_eq_lt.2 this]
  · have : A = B := by
      have h2 : A ≤ B := Rat.intCast_le_intCast.1 (Rat.le_of_mul_le_mul_right (by rw [h]; exact Rat.le_refl) hz)
      have h3 : B ≤ A := Rat.intCast_le_intCast.1 (Rat.le_of_mul_le_mul_right (by rw [h]; exact Rat.le_refl) hz)
      omega
    rw [Int.compare_eq_eq.2 this]
  · have : B < A := by
      rcases Int.lt_or_le B A with g | g
      · exact g
      · have := Rat.mul_le_mul_of_nonneg_right (Rat.intCast_le_intCast.2 g) (Rat.le_of_lt hz)
        grind
    rw [Int.compare_eq_gt.2 this]

/-- The greater (win = gt) or the lesser (win = lt) of two numbers, as the hardware picks. -/
def pickB (neg : Bool) (win : Ordering) (x y : Nat) : Nat :=
  if (Ieee.double.read x).isZero && (Ieee.double.read y).isZero then (if (Ieee.double.read x).neg == neg then x else y)
  else if Ieee.double.order x y == some win then x else y

theorem pick_run {x y : Nat} {a b : Rat} (hx : Vl x a) (hy : Vl y b) (name : String) (neg : Bool) (win : Ordering) :
    Extern.MathDim.pick name neg win #[.float .f64 x, .float .f64 y] = pure (.float .f64 (pickB neg win x y)) := by
  obtain ⟨s, m, i, hr, rfl⟩ := hx
  obtain ⟨t, n, j, hr', rfl⟩ := hy
  have d1 : FloatKind.f64.decode x = .number s m i := hr
  have d2 : FloatKind.f64.decode y = .number t n j := hr'
  have e : Extern.MathDim.pick name neg win #[.float .f64 x, .float .f64 y] = (pure (.float .f64 (
      if FloatKind.f64.decode x == .infinity neg || FloatKind.f64.decode y == .infinity neg then FloatKind.f64.encode (.infinity neg)
      else if (FloatKind.f64.decode x).isNaN || (FloatKind.f64.decode y).isNaN then 0x7FF8000000000001
      else if (FloatKind.f64.decode x).isZero && (FloatKind.f64.decode y).isZero then (if (FloatKind.f64.decode x).neg == neg then x else y)
      else if (FloatKind.f64.decode x).order (FloatKind.f64.decode y) == some win then x else y)) : Sem Value) := rfl
  rw [e]
  unfold pickB Format.order
  rw [d1, d2, hr, hr']
  rfl

theorem maxB_val {x y : Nat} {a b : Rat} (hx : Vl x a) (hy : Vl y b) :
    (pickB false .gt x y = x ∧ Vl (pickB false .gt x y) a ∧ b ≤ a) ∨ (pickB false .gt x y = y ∧ Vl (pickB false .gt x y) b ∧ a ≤ b) := by
  have ho := order_val hx hy
  have hz : ((Ieee.double.read x).isZero && (Ieee.double.read y).isZero) = true → a = b := by
    obtain ⟨s, m, i, hr, rfl⟩ := hx
    obtain ⟨t, n, j, hr', rfl⟩ := hy
    rw [hr, hr']
    intro h
    have h0 : m = 0 ∧ n = 0 := by
      rw [Bool.and_eq_true] at h
      refine ⟨?_, ?_⟩
      · have := h.1
        cases m
        · rfl
        · cases this
      · have := h.2
        cases n
        · rfl
        · cases this
    rw [h0.1, h0.2]
    unfold mval sgn
    have z : ((0 : Nat) : Rat) = 0 := rfl
    rw [z]
    cases s <;> cases t <;> simp <;> grind
  unfold pickB
  by_cases h : ((Ieee.double.read x).isZero && (Ieee.double.read y).isZero) = true
  · rw [if_pos h]
    have e := hz h
    by_cases g : ((Ieee.double.read x).neg == false) = true
    · rw [if_pos g]; exact .inl ⟨rfl, hx, by rw [e]; exact Rat.le_refl⟩
    · rw [if_neg g]; exact .inr ⟨rfl, hy, by rw [e]; exact Rat.le_refl⟩
  · rw [if_neg h]
    by_cases g : b < a
    · rw [ho.2.2 g]
      exact .inl ⟨rfl, hx, Rat.le_of_lt g⟩
    · have g2 : a ≤ b := Rat.not_lt.1 g
      have : Ieee.double.order x y = some .lt ∨ Ieee.double.order x y = some .eq := by
        by_cases g3 : a = b
        · exact .inr (ho.2.1 g3)
        · exact .inl (ho.1 (by grind))
      rcases this with h2 | h2 <;> rw [h2] <;> exact .inr ⟨rfl, hy, g2⟩

theorem minB_val {x y : Nat} {a b : Rat} (hx : Vl x a) (hy : Vl y b) :
    (pickB true .lt x y = x ∧ Vl (pickB true .lt x y) a ∧ a ≤ b) ∨ (pickB true .lt x y = y ∧ Vl (pickB true .lt x y) b ∧ b ≤ a) := by
  have ho := order_val hx hy
  have hz : ((Ieee.double.read x).isZero && (Ieee.double.read y).isZero) = true → a = b := by
    obtain ⟨s, m, i, hr, rfl⟩ := hx
    obtain ⟨t, n, j, hr', rfl⟩ := hy
    rw [hr, hr']
    intro h
    have h0 : m = 0 ∧ n = 0 := by
      rw [Bool.and_eq_true] at h
      refine ⟨?_, ?_⟩
      · have := h.1
        cases m
        · rfl
        · cases this
      · have := h.2
        cases n
        · rfl
        · cases this
    rw [h0.1, h0.2]
    unfold mval sgn
    have z : ((0 : Nat) : Rat) = 0 := rfl
    rw [z]
    cases s <;> cases t <;> simp <;> grind
  unfold pickB
  by_cases h : ((Ieee.double.read x).isZero && (Ieee.double.read y).isZero) = true
  · rw [if_pos h]
    have e := hz h
    by_cases g : ((Ieee.double.read x).neg == true) = true
    · rw [if_pos g]; exact .inl ⟨rfl, hx, by rw [e]; exact Rat.le_refl⟩
    · rw [if_neg g]; exact .inr ⟨rfl, hy, by rw [e]; exact Rat.le_refl⟩
  · rw [if_neg h]
    by_cases g : a < b
    · rw [ho.1 g]
      exact .inl ⟨rfl, hx, Rat.le_of_lt g⟩
    · have g2 : b ≤ a := Rat.not_lt.1 g
      have : Ieee.double.order x y = some .gt ∨ Ieee.double.order x y = some .eq := by
        by_cases g3 : a = b
        · exact .inr (ho.2.1 g3)
        · exact .inl (ho.2.2 (by grind))
      rcases this with h2 | h2 <;> rw [h2] <;> exact .inr ⟨rfl, hy, g2⟩

end Go.Proofs.Ybulkuac
