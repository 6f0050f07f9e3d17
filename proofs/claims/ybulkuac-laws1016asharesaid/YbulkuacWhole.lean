import Derived.Test.YbulkuacRule
namespace Go.Proofs.Ybulkuac
open Go Ieee

/-- All that the law's rule computes from t, d, k, and what one arm's cut then comes to. -/
structure RuleB (t d k : Nat) where
  (T D f l1 g l2 S1 S2 a m b n c L1 L2 C1 F1 p h : Nat)
  hT : tmpB t = some T
  hD : disB d = some D
  hf : facB k = some f
  hl1 : logB f = some l1
  f0 : f % 2 ^ 63 ≠ 0
  f1 : f < 0x7FF0000000000000
  hg : Ieee.double.div oneB f = some g
  hl2 : logB g = some l2
  g0 : g % 2 ^ 63 ≠ 0
  g1 : g < 0x7FF0000000000000
  hS1 : Ieee.double.mul (Op.negFloat .f64 T) l1 = some S1
  hS2 : Ieee.double.mul T l2 = some S2
  ha : Ieee.double.sub oneB D = some a
  hb : Ieee.double.div oneB a = some b
  hc : Ieee.double.add b twoB = some c
  hL1 : Ieee.double.div oneB c = some L1
  hC1 : cutB S1 L1 = some C1
  hF1 : maxO C1 minB = some F1
  hm : Ieee.double.mul twoB D = some m
  hn : Ieee.double.sub 4613937818241073152 m = some n
  hL2 : Ieee.double.div a n = some L2
  hp : Ieee.double.sub L2 S2 = some p
  hh : Ieee.double.div L2 twoB = some h
  arm : ∀ {s f : Nat} {a b : Rat}, Vl s a → Vl f b → 0 ≤ a → a ≤ 16 → 0 ≤ b → b ≤ 16 →
    ∃ s' f' r got want, armB S1 F1 s f = some (s', f') ∧ shareB s f = some r ∧ shareB s' f' = some got ∧ wantB S2 (max3B p h minB) r = some want ∧ Okd got want

theorem floor_alg {v1 v2 σ1 σ2 γ x y μ φ1 a b φ2 : Rat}
    (hσ : σ1 ≤ σ2 + 1 / 1000000000000) (hσ' : σ2 ≤ σ1 + 1 / 1000000000000)
    (h1 : v1 - v2 ≤ 1 / 10000000000000) (h2 : -(1 / 10000000000000) ≤ v1 - v2)
    (c1 : x ≤ γ) (c2 : y ≤ γ) (c3 : γ = x ∨ γ = y) (x1 : x ≤ v1 - σ1 + 1 / 10000000000000) (x2 : v1 - σ1 ≤ x + 1 / 10000000000000)
    (y1 : y ≤ v1 / 2 + 1 / 10000000000000) (y2 : v1 / 2 ≤ y + 1 / 10000000000000)
    (m1 : γ ≤ φ1) (m2 : μ ≤ φ1) (m3 : φ1 = γ ∨ φ1 = μ)
    (a1 : a ≤ v2 - σ2 + 1 / 10000000000000) (a2 : v2 - σ2 ≤ a + 1 / 10000000000000)
    (b1 : b ≤ v2 / 2 + 1 / 10000000000000) (b2 : v2 / 2 ≤ b + 1 / 10000000000000)
    (n1 : a ≤ φ2) (n2 : b ≤ φ2) (n3 : μ ≤ φ2) (n4 : φ2 = a ∨ φ2 = b ∨ φ2 = μ) :
    φ1 ≤ φ2 + 1 / 100000000000 ∧ φ2 ≤ φ1 + 1 / 100000000000 := by
  constructor
  · rcases m3 with h | h
    · rcases c3 with g | g <;> grind
    · grind
  · rcases n4 with h | h | h <;> grind

theorem shift_alg {τ v1 v2 : Rat} (t0 : 0 ≤ τ) (t1 : τ ≤ 6) (l0 : -5 ≤ v1) (l1 : v1 ≤ 1) (d1 : v1 + v2 ≤ 1 / 10000000000000) (d2 : -(1 / 10000000000000) ≤ v1 + v2) :
    -τ * v1 ≤ 30 ∧ -30 ≤ -τ * v1 ∧ τ * v2 ≤ -τ * v1 + 6 / 10000000000000 ∧ -τ * v1 ≤ τ * v2 + 6 / 10000000000000 := by
  have a1 := Rat.mul_le_mul_of_nonneg_left d1 t0
  have a2 := Rat.mul_le_mul_of_nonneg_left d2 t0
  have a3 := Rat.mul_le_mul_of_nonneg_left l0 t0
  have a4 := Rat.mul_le_mul_of_nonneg_left l1 t0
  refine ⟨?_, ?_, ?_, ?_⟩ <;> grind

theorem rule_ex {t d k : Nat} (ht : t < 50) (hd : d < 101) (hk : k < 99) : Nonempty (RuleB t d k) := by
  obtain ⟨T, τ, hT, vT, vT', t0, t1⟩ := tmp_val ht
  obtain ⟨f, l1, g, l2, v1, v2, hf, hl1, hg, hl2, f0, f1, g0, g1, vl1, vl2, b1, b2, d1, d2⟩ := log_val hk
  obtain ⟨D, a, m, b, n, c, L2, L1, w1, w2, hD, ha, hm, hb, hn, hc, hL2, hL1, vL1, vL2, p0, p1, p2, p3, p4, p5⟩ := low_val hd
  obtain ⟨s1, s2, s3, s4⟩ := shift_alg t0 t1 b1 b2 d1 d2
  obtain ⟨S1, σ1, hS1, vS1, q1, q2⟩ := mul_near 100 vT' vl1 (by grind) (by grind) (by grind) (by grind)
  obtain ⟨S2, σ2, hS2, vS2, q3, q4⟩ := mul_near 100 vT vl2 (by grind) (by grind) (by grind) (by grind)
  obtain ⟨C1, γ, x, y, hC1, vC1, c1, c2, c3, x1, x2, y1, y2⟩ := cut_val vL1 vS1 (by grind) (by grind) (by grind) (by grind)
  obtain ⟨μ, vμ, μ0, μ1⟩ := vl_min
  obtain ⟨F1, φ1, hF1, vF1, m1, m2, m3⟩ := maxO_val vC1 vμ
  obtain ⟨p, vp, hp, vvp, e1, e2⟩ := less_val vL2 vS2 (by grind) (by grind) (by grind) (by grind)
  obtain ⟨h, vh, hh, vvh, e3, e4⟩ := half_val vL2 (by grind) (by grind)
  obtain ⟨φ2, vF2, n1, n2, n3, n4⟩ := max3_val vvp vvh vμ
  have hσ : σ1 ≤ σ2 + 1 / 1000000000000 := by grind
  have hσ' : σ2 ≤ σ1 + 1 / 1000000000000 := by grind
  have hφ := floor_alg hσ hσ' p4 p5 c1 c2 c3 x1 x2 y1 y2 m1 m2 m3 e1 e2 e3 e4 n1 n2 n3 n4
  exact ⟨{ T := T, D := D, f := f, l1 := l1, g := g, l2 := l2, S1 := S1, S2 := S2, a := a, m := m, b := b, n := n, c := c, L1 := L1, L2 := L2, C1 := C1, F1 := F1, p := p, h := h, hT := hT, hD := hD, hf := hf, hl1 := hl1, f0 := f0, f1 := f1, hg := hg, hl2 := hl2, g0 := g0, g1 := g1, hS1 := hS1, hS2 := hS2, ha := ha, hb := hb, hc := hc, hL1 := hL1, hC1 := hC1, hF1 := hF1, hm := hm, hn := hn, hL2 := hL2, hp := hp, hh := hh, arm := fun hs hf a0 a1 b0 b1 => arm_val hs hf a0 a1 b0 b1 vS1 vS2 vF1 vF2 (by grind) (by grind) (by grind) (by grind) hσ hσ' hφ.1 hφ.2 }⟩

end Go.Proofs.Ybulkuac
