import Derived.Test.YbulkuacArm
namespace Go.Proofs.Ybulkuac
open Go Ieee

/-- One arm's cut. -/
def armB (S F s f : Nat) : Option (Nat × Nat) :=
  (shareB s f).bind fun r => (targetB S F r).bind fun t =>
    if geB t r then some (s, f) else (keptB t f).bind fun kept =>
      if geB kept 0 then some (kept, f) else (failB t).bind fun f' => some (0, f')

/-- Near enough for the law. -/
def Okd (got want : Nat) : Prop := ∃ e ε, Ieee.double.sub got want = some e ∧ Vl e ε ∧ -(1 / 2000000000) ≤ ε ∧ ε ≤ 1 / 2000000000

theorem okd_of {g w : Nat} {a b : Rat} (hg : Vl g a) (hw : Vl w b) (h1 : a ≤ b + 1 / 4000000000) (h2 : b ≤ a + 1 / 4000000000) : Okd g w := by
  obtain ⟨e, ε, he, hv, x, y⟩ := sub_near 100 hg hw (by grind) (by grind) (by grind) (by grind)
  exact ⟨e, ε, he, hv, by grind, by grind⟩

theorem target_val {r S F : Nat} {ρ σ φ : Rat} (hr : Vl r ρ) (hS : Vl S σ) (hF : Vl F φ) (h0 : -2 ≤ ρ) (h1 : ρ ≤ 2) (s0 : -50 ≤ σ) (s1 : σ ≤ 50) :
    ∃ t τ x y, targetB S F r = some t ∧ Vl t τ ∧ x ≤ τ ∧ y ≤ τ ∧ φ ≤ τ ∧ (τ = x ∨ τ = y ∨ τ = φ) ∧ x ≤ ρ - σ + 1 / 10000000000000 ∧ ρ - σ ≤ x + 1 / 10000000000000 ∧ y ≤ ρ / 2 + 1 / 10000000000000 ∧ ρ / 2 ≤ y + 1 / 10000000000000 := by
  obtain ⟨c, γ, x, y, e1, g1, c1, c2, c3, x1, x2, y1, y2⟩ := cut_val hr hS h0 h1 s0 s1
  obtain ⟨t, τ, e2, g2, t1, t2, t3⟩ := maxO_val g1 hF
  refine ⟨t, τ, x, y, ?_, g2, by grind, by grind, t2, by grind, x1, x2, y1, y2⟩
  unfold targetB
  rw [e1]
  exact e2

theorem want_val {r S F : Nat} {ρ σ φ : Rat} (hr : Vl r ρ) (hS : Vl S σ) (hF : Vl F φ) (h0 : -2 ≤ ρ) (h1 : ρ ≤ 2) (s0 : -50 ≤ σ) (s1 : σ ≤ 50) :
    ∃ t τ m x y, wantB S F r = some t ∧ Vl t τ ∧ τ ≤ m ∧ τ ≤ ρ ∧ (τ = m ∨ τ = ρ) ∧ x ≤ m ∧ y ≤ m ∧ φ ≤ m ∧ (m = x ∨ m = y ∨ m = φ) ∧ x ≤ ρ - σ + 1 / 10000000000000 ∧ ρ - σ ≤ x + 1 / 10000000000000 ∧ y ≤ ρ / 2 + 1 / 10000000000000 ∧ ρ / 2 ≤ y + 1 / 10000000000000 := by
  obtain ⟨a, va, e1, g1, a1, a2⟩ := less_val hr hS h0 h1 s0 s1
  obtain ⟨b, vb, e2, g2, b1, b2⟩ := half_val hr h0 h1
  obtain ⟨m, g3, m1, m2, m3, m4⟩ := max3_val g1 g2 hF
  obtain ⟨t, τ, e4, g4, t1, t2, t3⟩ := minO_val g3 hr
  refine ⟨t, τ, m, va, vb, ?_, g4, t1, t2, t3, m1, m2, m3, m4, a1, a2, b1, b2⟩
  unfold wantB
  rw [e1, e2]
  exact e4

theorem near_targets {ρ σ1 σ2 φ1 φ2 τ x1 y1 m x2 y2 : Rat}
    (hσ : σ1 ≤ σ2 + 1 / 1000000000000) (hσ' : σ2 ≤ σ1 + 1 / 1000000000000)
    (hφ : φ1 ≤ φ2 + 1 / 100000000000) (hφ' : φ2 ≤ φ1 + 1 / 100000000000)
    (a1 : x1 ≤ τ) (a2 : y1 ≤ τ) (a3 : φ1 ≤ τ) (a4 : τ = x1 ∨ τ = y1 ∨ τ = φ1)
    (b1 : x1 ≤ ρ - σ1 + 1 / 10000000000000) (b2 : ρ - σ1 ≤ x1 + 1 / 10000000000000) (b3 : y1 ≤ ρ / 2 + 1 / 10000000000000) (b4 : ρ / 2 ≤ y1 + 1 / 10000000000000)
    (c1 : x2 ≤ m) (c2 : y2 ≤ m) (c3 : φ2 ≤ m) (c4 : m = x2 ∨ m = y2 ∨ m = φ2)
    (d1 : x2 ≤ ρ - σ2 + 1 / 10000000000000) (d2 : ρ - σ2 ≤ x2 + 1 / 10000000000000) (d3 : y2 ≤ ρ / 2 + 1 / 10000000000000) (d4 : ρ / 2 ≤ y2 + 1 / 10000000000000) :
    τ ≤ m + 1 / 20000000000 ∧ m ≤ τ + 1 / 20000000000 := by
  constructor
  · rcases a4 with h | h | h <;> grind
  · rcases c4 with h | h | h <;> grind

/-- ONE ARM: what the cut leaves is near what the law wants. -/
theorem arm_val {s f S1 S2 F1 F2 : Nat} {a b σ1 σ2 φ1 φ2 : Rat} (hs : Vl s a) (hf : Vl f b) (a0 : 0 ≤ a) (a1 : a ≤ 16) (b0 : 0 ≤ b) (b1 : b ≤ 16)
    (hS1 : Vl S1 σ1) (hS2 : Vl S2 σ2) (hF1 : Vl F1 φ1) (hF2 : Vl F2 φ2)
    (s0 : -50 ≤ σ1) (s1 : σ1 ≤ 50) (s2 : -50 ≤ σ2) (s3 : σ2 ≤ 50)
    (hσ : σ1 ≤ σ2 + 1 / 1000000000000) (hσ' : σ2 ≤ σ1 + 1 / 1000000000000)
    (hφ : φ1 ≤ φ2 + 1 / 100000000000) (hφ' : φ2 ≤ φ1 + 1 / 100000000000) :
    ∃ s' f' r got want, armB S1 F1 s f = some (s', f') ∧ shareB s f = some r ∧ shareB s' f' = some got ∧ wantB S2 F2 r = some want ∧ Okd got want := by
  obtain ⟨r, ρ, e1, hr, r1, r2⟩ := share_val hs hf (by grind) a1 (by grind) b1
  obtain ⟨t, τ, x1, y1, e2, ht, t1, t2, t3, t4, t5, t6, t7, t8⟩ := target_val hr hS1 hF1 (by grind) (by grind) s0 s1
  obtain ⟨want, ω, m, x2, y2, e3, hw, w1, w2, w3, w4, w5, w6, w7, w8, w9, w10, w11⟩ := want_val hr hS2 hF2 (by grind) (by grind) s2 s3
  have near := near_targets hσ hσ' hφ hφ' t1 t2 t3 t4 t5 t6 t7 t8 w4 w5 w6 w7 w8 w9 w10 w11
  have hge := geB_val ht hr
  have hlow : 2 / 100 ≤ τ := by grind
  clear t1 t3 t4 t5 t6 w4 w5 w6 w7 w8 w9 w10 w11 hσ hσ' hφ hφ' s0 s1 s2 s3 t7 t8 t2
  cases hg : geB t r
  · -- it is cut
    have hlt := hge.2 hg
    have hτ : τ ≤ 946 / 1000 := by grind
    obtain ⟨g2, v2, e4, h4, f1, f2⟩ := add_near 100 hf vl_two (by grind) (by grind) (by grind) (by grind)
    have p0 : 0 ≤ τ * v2 := Rat.mul_nonneg (by grind) (by grind)
    have p1 : τ * v2 ≤ τ * 20 := Rat.mul_le_mul_of_nonneg_left (by grind) (by grind)
    obtain ⟨P, vP, e5, h5, P1, P2⟩ := mul_near 100 ht h4 (by grind) (by grind) (by grind) (by grind)
    obtain ⟨N, vN, e6, h6, N1, N2⟩ := sub_near 100 h5 vl_one (by grind) (by grind) (by grind) (by grind)
    obtain ⟨D, vD, e7, h7, D1, D2⟩ := sub_near 100 vl_one ht (by grind) (by grind) (by grind) (by grind)
    have hD : 0 < vD := by grind
    obtain ⟨q, hq⟩ : ∃ q, q * vD = vN := ⟨vN / vD, Rat.div_mul_cancel (by grind)⟩
    have q1 : q ≤ 700 := Rat.le_of_mul_le_mul_right (c := vD) (by rw [hq]; grind) hD
    have q2 : -700 ≤ q := Rat.le_of_mul_le_mul_right (c := vD) (by rw [hq]; grind) hD
    obtain ⟨kept, vk, e8, h8, k1, k2⟩ := div_near 900 q h6 h7 hD hq (by grind) (by grind) (by grind) (by grind)
    have ek : keptB t f = some kept := by
      unfold keptB
      rw [e4]
      dsimp only [Option.bind_eq_bind, Option.bind_some]
      rw [e5]
      dsimp only [Option.bind_eq_bind, Option.bind_some]
      rw [e6, e7]
      exact e8
    have hgk := geB_val h8 vl_zero
    cases hk : geB kept 0
    · -- failures are added
      have hτ0 : 0 < τ := by grind
      obtain ⟨u, hu⟩ : ∃ u, u * τ = 1 := ⟨1 / τ, Rat.div_mul_cancel (by grind)⟩
      have u1 : u ≤ 50 := Rat.le_of_mul_le_mul_right (c := τ) (by rw [hu]; grind) hτ0
      have u2 : 105 / 100 ≤ u := Rat.le_of_mul_le_mul_right (c := τ) (by rw [hu]; grind) hτ0
      obtain ⟨w, vw, e9, h9, i1, i2⟩ := div_near 100 u vl_one ht hτ0 hu (by grind) (by grind) (by grind) (by grind)
      obtain ⟨f', vf, e10, h10, j1, j2⟩ := sub_near 100 h9 vl_two (by grind) (by grind) (by grind) (by grind)
      have ef : failB t = some f' := by
        unfold failB
        rw [e9]
        exact e10
      obtain ⟨n, vn, e11, h11, l1, l2⟩ := add_near 100 vl_zero vl_one (by grind) (by grind) (by grind) (by grind)
      obtain ⟨k, vkk, e12, h12, o1, o2⟩ := add_near 100 vl_zero h10 (by grind) (by grind) (by grind) (by grind)
      obtain ⟨d, vd, e13, h13, z1, z2⟩ := add_near 100 h12 vl_two (by grind) (by grind) (by grind) (by grind)
      have hd1 : 1 ≤ vd := by grind
      have hd0 : 0 < vd := by grind
      obtain ⟨q2', hq2⟩ : ∃ q, q * vd = vn := ⟨vn / vd, Rat.div_mul_cancel (by grind)⟩
      have y1' : q2' ≤ 50 := Rat.le_of_mul_le_mul_right (c := vd) (by rw [hq2]; grind) hd0
      have y2' : -50 ≤ q2' := Rat.le_of_mul_le_mul_right (c := vd) (by rw [hq2]; grind) hd0
      obtain ⟨got, vg, e14, h14, x1', x2'⟩ := div_near 100 q2' h11 h13 hd0 hq2 (by grind) (by grind) (by grind) (by grind)
      have hfin := none_alg (t := τ) (q := u) (w := vw) (f := vf) (nn := vn) (kf := vkk) (dd := vd) (q2 := q2') (got := vg) (by grind) (by grind) hu (by grind) (by grind) (by grind) (by grind) (by grind) (by grind) (by grind) (by grind) (by grind) (by grind) hq2 (by grind) (by grind) hd1
      refine ⟨0, f', r, got, want, ?_, e1, ?_, e3, okd_of h14 hw ?_ ?_⟩
      · unfold armB
        rw [e1, Option.bind_some, e2, Option.bind_some, hg, if_neg (by decide), ek, Option.bind_some, hk, if_neg (by decide), ef]
        rfl
      · unfold shareB
        rw [e11, e12]
        dsimp only [Option.bind_eq_bind, Option.bind_some]
        rw [e13]
        exact e14
      · clear h14 hw; grind
      · clear h14 hw; grind
    · -- successes are taken away
      have hkk := hgk.1 hk
      obtain ⟨n, vn, e11, h11, l1, l2⟩ := add_near 900 h8 vl_one (by grind) (by grind) (by grind) (by grind)
      obtain ⟨k, vkk, e12, h12, o1, o2⟩ := add_near 900 h8 hf (by grind) (by grind) (by grind) (by grind)
      obtain ⟨d, vd, e13, h13, z1, z2⟩ := add_near 900 h12 vl_two (by grind) (by grind) (by grind) (by grind)
      have hd1 : 1 ≤ vd := by grind
      have hd0 : 0 < vd := by grind
      obtain ⟨q2', hq2⟩ : ∃ q, q * vd = vn := ⟨vn / vd, Rat.div_mul_cancel (by grind)⟩
      have y1' : q2' ≤ 50 := Rat.le_of_mul_le_mul_right (c := vd) (by rw [hq2]; grind) hd0
      have y2' : -50 ≤ q2' := Rat.le_of_mul_le_mul_right (c := vd) (by rw [hq2]; grind) hd0
      obtain ⟨got, vg, e14, h14, x1', x2'⟩ := div_near 900 q2' h11 h13 hd0 hq2 (by grind) (by grind) (by grind) (by grind)
      have hfin := kept_alg (t := τ) (f := b) (F2 := v2) (P := vP) (N := vN) (Dn := vD) (q := q) (kept := vk) (nn := vn) (kf := vkk) (dd := vd) (q2 := q2') (got := vg) (by grind) (by grind) b0 (by grind) (by grind) (by grind) (by grind) (by grind) (by grind) (by grind) (by grind) hq (by grind) (by grind) hkk (by grind) (by grind) (by grind) (by grind) (by grind) (by grind) (by grind) hq2 (by grind) (by grind)
      refine ⟨kept, f, r, got, want, ?_, e1, ?_, e3, okd_of h14 hw ?_ ?_⟩
      · unfold armB
        rw [e1, Option.bind_some, e2, Option.bind_some, hg, if_neg (by decide), ek, Option.bind_some, hk, if_pos rfl]
      · unfold shareB
        rw [e11, e12]
        dsimp only [Option.bind_eq_bind, Option.bind_some]
        rw [e13]
        exact e14
      · clear h14 hw; grind
      · clear h14 hw; grind
  · -- it stays
    have hle := hge.1 hg
    refine ⟨s, f, r, r, want, ?_, e1, e1, e3, okd_of hr hw ?_ ?_⟩
    · unfold armB
      rw [e1, Option.bind_some, e2, Option.bind_some, hg, if_pos rfl]
    · grind
    · grind

end Go.Proofs.Ybulkuac
