import Derived.Test.YbulkuacCut
namespace Go.Proofs.Ybulkuac
open Go Ieee

/-- The share of an arm of moderate evidence. -/
theorem share_val {s f : Nat} {a b : Rat} (hs : Vl s a) (hf : Vl f b) (a0 : -1 / 1000 ≤ a) (a1 : a ≤ 16) (b0 : -1 / 1000 ≤ b) (b1 : b ≤ 16) :
    ∃ r ρ, shareB s f = some r ∧ Vl r ρ ∧ 1 / 20 ≤ ρ ∧ ρ ≤ 946 / 1000 := by
  obtain ⟨n, vn, e1, h1, n1, n2⟩ := add_near 100 hs vl_one (by grind) (by grind) (by grind) (by grind)
  obtain ⟨k, vk, e2, h2, k1, k2⟩ := add_near 100 hs hf (by grind) (by grind) (by grind) (by grind)
  obtain ⟨d, vd, e3, h3, d1, d2⟩ := add_near 100 h2 vl_two (by grind) (by grind) (by grind) (by grind)
  have hd0 : 1 ≤ vd := by grind
  obtain ⟨q, hq⟩ : ∃ q, q * vd = vn := ⟨vn / vd, Rat.div_mul_cancel (by grind)⟩
  have hpos : 0 < vd := by grind
  have q1 : q ≤ 9459 / 10000 := Rat.le_of_mul_le_mul_right (c := vd) (by rw [hq]; grind) hpos
  have q2 : 51 / 1000 ≤ q := Rat.le_of_mul_le_mul_right (c := vd) (by rw [hq]; grind) hpos
  obtain ⟨r, ρ, e4, h4, r1, r2⟩ := div_near 100 q h1 h3 hpos hq (by grind) (by grind) (by grind) (by grind)
  refine ⟨r, ρ, ?_, h4, by grind, by grind⟩
  unfold shareB
  rw [e1, e2]
  dsimp only [Option.bind_eq_bind, Option.bind_some]
  rw [e3]
  exact e4

theorem half_val {r : Nat} {ρ : Rat} (hr : Vl r ρ) (h0 : -2 ≤ ρ) (h1 : ρ ≤ 2) : ∃ b β, Ieee.double.div r twoB = some b ∧ Vl b β ∧ β ≤ ρ / 2 + 1 / 10000000000000 ∧ ρ / 2 ≤ β + 1 / 10000000000000 := by
  obtain ⟨b, β, e, h, x, y⟩ := div_near 100 (ρ / 2) hr vl_two (by decide) (Rat.div_mul_cancel (by decide)) (by grind) (by grind) (by grind) (by grind)
  exact ⟨b, β, e, h, by grind, by grind⟩

theorem less_val {r S : Nat} {ρ σ : Rat} (hr : Vl r ρ) (hS : Vl S σ) (h0 : -2 ≤ ρ) (h1 : ρ ≤ 2) (s0 : -50 ≤ σ) (s1 : σ ≤ 50) :
    ∃ b β, Ieee.double.sub r S = some b ∧ Vl b β ∧ β ≤ ρ - σ + 1 / 10000000000000 ∧ ρ - σ ≤ β + 1 / 10000000000000 := by
  obtain ⟨b, β, e, h, x, y⟩ := sub_near 100 hr hS (by grind) (by grind) (by grind) (by grind)
  exact ⟨b, β, e, h, by grind, by grind⟩

/-- The cut of a share. -/
theorem cut_val {r S : Nat} {ρ σ : Rat} (hr : Vl r ρ) (hS : Vl S σ) (h0 : -2 ≤ ρ) (h1 : ρ ≤ 2) (s0 : -50 ≤ σ) (s1 : σ ≤ 50) :
    ∃ c γ x y, cutB S r = some c ∧ Vl c γ ∧ x ≤ γ ∧ y ≤ γ ∧ (γ = x ∨ γ = y) ∧ x ≤ ρ - σ + 1 / 10000000000000 ∧ ρ - σ ≤ x + 1 / 10000000000000 ∧ y ≤ ρ / 2 + 1 / 10000000000000 ∧ ρ / 2 ≤ y + 1 / 10000000000000 := by
  obtain ⟨a, va, e1, g1, a1, a2⟩ := less_val hr hS h0 h1 s0 s1
  obtain ⟨b, vb, e2, g2, b1, b2⟩ := half_val hr h0 h1
  obtain ⟨c, vc, e3, g3, c1, c2, c3⟩ := maxO_val g1 g2
  refine ⟨c, vc, va, vb, ?_, g3, c1, c2, c3, a1, a2, b1, b2⟩
  unfold cutB
  rw [e1, e2]
  exact e3

end Go.Proofs.Ybulkuac
