import Derived.Test.YbulkuacRnd
namespace Go.Proofs.Ybulkuac
open Go Ieee

/-- A number with its sign. -/
def sgn (s : Bool) (v : Rat) : Rat := if s then -v else v

/-- The word x stands for the number v. -/
def Vl (x : Nat) (v : Rat) : Prop := ∃ s m p, Ieee.double.read x = .number s m p ∧ v = sgn s (mval m p)

theorem tiny : zp (-53) ≤ 1 / 4000000000000000 := by
  have h := zp_neg 53
  have h1 : zp 53 = 9007199254740992 := by
    have := zp_nat 53
    exact this
  rw [h1] at h
  grind

theorem mval_nonneg (m : Nat) (p : Int) : 0 ≤ mval m p :=
  Rat.mul_nonneg Rat.natCast_nonneg (Rat.le_of_lt (zp_pos _))

theorem thousand : (1000 : Rat) ≤ zp 1000 := by
  have h1 : zp 10 = 1024 := by
    have := zp_nat 10
    exact this
  have h2 : zp 10 ≤ zp 1000 := zp_mono (by decide)
  rw [h1] at h2
  grind

/-- Writing a number of moderate size. -/
theorem write_near (s : Bool) (m : Nat) (p : Int) (M : Rat) (h1 : mval m p ≤ M) (hM : 1 ≤ M) (hM2 : M ≤ 1000) :
    ∃ v, Vl (Ieee.double.nearest s m p) v ∧ v ≤ sgn s (mval m p) + M * (1 / 2000000000000000) ∧ sgn s (mval m p) ≤ v + M * (1 / 2000000000000000) := by
  obtain ⟨m', p', hr, ha, hb⟩ := nearest_spec s m p (Rat.le_trans h1 (Rat.le_trans hM2 thousand))
  refine ⟨_, ⟨s, m', p', hr, rfl⟩, ?_⟩
  have t := tiny
  have t2 : zp (-1075) ≤ zp (-53) := zp_mono (by decide)
  have h0 := mval_nonneg m p
  have t3 := zp_pos (-53)
  have g1 : mval m p * zp (-53) ≤ M * zp (-53) := Rat.mul_le_mul_of_nonneg_right h1 (Rat.le_of_lt t3)
  have g2 : 1 * zp (-53) ≤ M * zp (-53) := Rat.mul_le_mul_of_nonneg_right hM (Rat.le_of_lt t3)
  have g3 : M * zp (-53) ≤ M * (1 / 4000000000000000) := Rat.mul_le_mul_of_nonneg_left t (by grind)
  generalize mval m p = A at *
  generalize mval m' p' = B at *
  generalize zp (-53) = u at *
  generalize zp (-1075) = w at *
  unfold sgn
  cases s
  · simp only [Bool.false_eq_true, if_false]
    constructor <;> grind
  · simp only [if_true]
    constructor <;> grind

theorem sgn_bound {s : Bool} {v M : Rat} (h1 : -M ≤ sgn s v) (h2 : sgn s v ≤ M) : v ≤ M := by
  unfold sgn at h1 h2
  cases s
  · simpa using h2
  · simp only [if_true] at h1 h2
    grind

theorem signed_val (s : Bool) (m : Nat) (i base : Int) (h : base ≤ i) : ((signed s m (i - base).toNat : Int) : Rat) * zp base = sgn s (mval m i) := by
  have e : mval m i = ((m * 2 ^ (i - base).toNat : Nat) : Rat) * zp base := by
    have := mval_shift m (i - base).toNat base
    rw [show base + (((i - base).toNat : Nat) : Int) = i by omega] at this
    exact this.symm
  rw [e]
  unfold signed sgn
  rw [Nat.shiftLeft_eq]
  generalize m * 2 ^ (i - base).toNat = K
  cases s
  · simp only [Bool.false_eq_true, if_false]
    rw [Rat.intCast_natCast]
  · simp only [if_true]
    rw [Rat.intCast_neg, Rat.intCast_natCast]
    grind

theorem total_val (b : Bool) (t base : Int) : sgn (if t = 0 then b else decide (t < 0)) (mval t.natAbs base) = (t : Rat) * zp base := by
  unfold mval sgn
  by_cases h : t = 0
  · subst h
    simp only [if_true, Int.natAbs_zero]
    have : ((0 : Nat) : Rat) = 0 := rfl
    have h2 : ((0 : Int) : Rat) = 0 := rfl
    rw [this, h2]
    cases b <;> grind
  · rw [if_neg h]
    have e : ((t.natAbs : Nat) : Rat) = ((t.natAbs : Int) : Rat) := (Rat.intCast_natCast _).symm
    rw [e]
    by_cases hn : t < 0
    · simp only [hn, decide_true, if_true]
      have : ((t.natAbs : Nat) : Int) = -t := by omega
      rw [this, Rat.intCast_neg]
      grind
    · simp only [hn, decide_false, Bool.false_eq_true, if_false]
      have : ((t.natAbs : Nat) : Int) = t := by omega
      rw [this]

theorem sum_near {s t : Bool} {m n : Nat} {i j : Int} (M : Rat)
    (h1 : -M ≤ sgn s (mval m i) + sgn t (mval n j)) (h2 : sgn s (mval m i) + sgn t (mval n j) ≤ M) (hM : 1 ≤ M) (hM2 : M ≤ 1000) :
    ∃ r v, ((Datum.number s m i).sum (.number t n j)).map Ieee.double.write = some r ∧ Vl r v ∧
      v ≤ sgn s (mval m i) + sgn t (mval n j) + M * (1 / 1000000000000000) ∧ sgn s (mval m i) + sgn t (mval n j) ≤ v + M * (1 / 1000000000000000) := by
  unfold Datum.sum
  dsimp only [Option.map_some]
  have e1 := signed_val s m i (min i j) (by omega)
  have e2 := signed_val t n j (min i j) (by omega)
  have e : ((signed s m (i - min i j).toNat + signed t n (j - min i j).toNat : Int) : Rat) * zp (min i j) = sgn s (mval m i) + sgn t (mval n j) := by
    rw [Rat.intCast_add, ← e1, ← e2]
    grind
  rw [← e] at h1 h2 ⊢
  rw [← total_val (s && t)] at h1 h2 ⊢
  obtain ⟨v, hv, ha, hb⟩ := write_near _ _ _ M (sgn_bound h1 h2) hM hM2
  refine ⟨_, v, rfl, hv, ?_, ?_⟩ <;> grind

theorem add_near {x y : Nat} {a b : Rat} (M : Rat) (hx : Vl x a) (hy : Vl y b) (h1 : -M ≤ a + b) (h2 : a + b ≤ M) (hM : 1 ≤ M) (hM2 : M ≤ 1000) :
    ∃ r v, Ieee.double.add x y = some r ∧ Vl r v ∧ v ≤ a + b + M * (1 / 1000000000000000) ∧ a + b ≤ v + M * (1 / 1000000000000000) := by
  obtain ⟨s, m, i, hr, rfl⟩ := hx
  obtain ⟨t, n, j, hr', rfl⟩ := hy
  unfold Format.add
  rw [hr, hr']
  exact sum_near M h1 h2 hM hM2

theorem sgn_not (s : Bool) (v : Rat) : sgn (!s) v = - sgn s v := by
  unfold sgn; cases s <;> simp

theorem sub_near {x y : Nat} {a b : Rat} (M : Rat) (hx : Vl x a) (hy : Vl y b) (h1 : -M ≤ a - b) (h2 : a - b ≤ M) (hM : 1 ≤ M) (hM2 : M ≤ 1000) :
    ∃ r v, Ieee.double.sub x y = some r ∧ Vl r v ∧ v ≤ a - b + M * (1 / 1000000000000000) ∧ a - b ≤ v + M * (1 / 1000000000000000) := by
  obtain ⟨s, m, i, hr, rfl⟩ := hx
  obtain ⟨t, n, j, hr', rfl⟩ := hy
  unfold Format.sub
  rw [hr, hr']
  unfold Datum.opposite
  dsimp only
  have e : sgn s (mval m i) - sgn t (mval n j) = sgn s (mval m i) + sgn (!t) (mval n j) := by
    rw [sgn_not, Rat.sub_eq_add_neg]
  rw [e] at h1 h2 ⊢
  exact sum_near M h1 h2 hM hM2

theorem sgn_mul (s t : Bool) (a b : Rat) : sgn (s ^^ t) (a * b) = sgn s a * sgn t b := by
  unfold sgn; cases s <;> cases t <;> simp <;> grind

theorem mul_near {x y : Nat} {a b : Rat} (M : Rat) (hx : Vl x a) (hy : Vl y b) (h1 : -M ≤ a * b) (h2 : a * b ≤ M) (hM : 1 ≤ M) (hM2 : M ≤ 1000) :
    ∃ r v, Ieee.double.mul x y = some r ∧ Vl r v ∧ v ≤ a * b + M * (1 / 1000000000000000) ∧ a * b ≤ v + M * (1 / 1000000000000000) := by
  obtain ⟨s, m, i, hr, rfl⟩ := hx
  obtain ⟨t, n, j, hr', rfl⟩ := hy
  unfold Format.mul
  rw [hr, hr']
  unfold Datum.product
  dsimp only [Option.map_some]
  have e : sgn s (mval m i) * sgn t (mval n j) = sgn (s ^^ t) (mval (m * n) (i + j)) := by
    rw [← sgn_mul]
    unfold mval
    rw [zp_add, Rat.natCast_mul]
    congr 1
    grind
  rw [e] at h1 h2 ⊢
  obtain ⟨v, hv, ha, hb⟩ := write_near _ _ _ M (sgn_bound h1 h2) hM hM2
  refine ⟨_, v, rfl, hv, ?_, ?_⟩ <;> grind

end Go.Proofs.Ybulkuac
