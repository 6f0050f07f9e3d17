import Derived.Test.YbulkuacPlain
import Derived.Test.YbulkuacEnumA
namespace Go.Proofs.Ybulkuac
open Go Ieee

def tmpB (k : Nat) : Option Nat := Ieee.double.div (enc (1 + k)) (enc 10)

def tmpOk (k : Nat) : Bool := match tmpB k with
  | some T => isN T && isN (Op.negFloat .f64 T) && decide (fx (Op.negFloat .f64 T) = -fx T) && decide (0 ≤ fx T) && decide (fx T ≤ 6 * 2 ^ 1074)
  | none => false

def evB (n : Nat) : Option Nat := Ieee.double.div (enc n) (enc 4)
def wtB (n : Nat) : Option Nat := Ieee.double.div (enc n) (enc 8)

def evOk (n : Nat) : Bool := match evB n with
  | some e => isN e && decide (0 ≤ fx e) && decide (fx e ≤ 16 * 2 ^ 1074)
  | none => false

set_option maxRecDepth 100000 in
theorem tmpOk_all : ∀ k < 50, tmpOk k = true := by decide +kernel

set_option maxRecDepth 100000 in
theorem evOk_all : ∀ n < 64, evOk n = true := by decide +kernel

set_option maxRecDepth 100000 in
theorem wtOk_all : ∀ n < 256, (wtB n).isSome = true := by decide +kernel

/-- From units of a place to numbers. -/
theorem sc_le {n : Nat} {A N : Int} (h : A ≤ N * 2 ^ n) : (A : Rat) * zp (-(n : Int)) ≤ (N : Rat) := by
  have hz := zp_pos (-(n : Int))
  have h1 : (A : Rat) ≤ ((N * 2 ^ n : Int) : Rat) := Rat.intCast_le_intCast.2 h
  have h2 := Rat.mul_le_mul_of_nonneg_right h1 (Rat.le_of_lt hz)
  have u : ((2 : Int) ^ n : Int) = ((2 ^ n : Nat) : Int) := by
    rw [Int.natCast_pow]; rfl
  have e : ((N * 2 ^ n : Int) : Rat) * zp (-(n : Int)) = (N : Rat) := by
    rw [u, Rat.intCast_mul, Rat.intCast_natCast, ← zp_nat, Rat.mul_assoc, zp_neg, Rat.mul_one]
  rw [e] at h2
  exact h2

theorem sc_ge {n : Nat} {A N : Int} (h : N * 2 ^ n ≤ A) : (N : Rat) ≤ (A : Rat) * zp (-(n : Int)) := by
  have h1 : -A ≤ -N * 2 ^ n := by rw [Int.neg_mul]; exact Int.neg_le_neg h
  have := sc_le h1
  rw [Rat.intCast_neg, Rat.intCast_neg] at this
  grind

theorem tmp_val {k : Nat} (hk : k < 50) : ∃ T τ, tmpB k = some T ∧ Vl T τ ∧ Vl (Op.negFloat .f64 T) (-τ) ∧ 0 ≤ τ ∧ τ ≤ 6 := by
  have h := tmpOk_all k hk
  unfold tmpOk at h
  cases hT : tmpB k with
  | none => rw [hT] at h; cases h
  | some T =>
    rw [hT] at h
    simp only [Bool.and_eq_true, decide_eq_true_eq] at h
    obtain ⟨⟨⟨⟨h1, h2⟩, h3⟩, h4⟩, h5⟩ := h
    have v1 := vl_fx h1
    have v2 := vl_fx h2
    rw [h3, Rat.intCast_neg, Rat.neg_mul] at v2
    have g1 := sc_le (n := 1074) h5
    have g0 := sc_ge (n := 1074) (N := 0) (A := fx T) (by rw [Int.zero_mul]; exact h4)
    exact ⟨T, _, rfl, v1, v2, g0, g1⟩

theorem ev_val {n : Nat} (hn : n < 64) : ∃ e v, evB n = some e ∧ Vl e v ∧ 0 ≤ v ∧ v ≤ 16 := by
  have h := evOk_all n hn
  unfold evOk at h
  cases hT : evB n with
  | none => rw [hT] at h; cases h
  | some T =>
    rw [hT] at h
    simp only [Bool.and_eq_true, decide_eq_true_eq] at h
    obtain ⟨⟨h1, h4⟩, h5⟩ := h
    have v1 := vl_fx h1
    have g1 := sc_le (n := 1074) h5
    have g0 := sc_ge (n := 1074) (N := 0) (A := fx T) (by rw [Int.zero_mul]; exact h4)
    exact ⟨T, _, rfl, v1, g0, g1⟩

theorem wt_some {n : Nat} (hn : n < 256) : ∃ e, wtB n = some e := Option.isSome_iff_exists.1 (wtOk_all n hn)

theorem diff_val {A B : Int} (h1 : (A + B) * 10000000000000 ≤ 2 ^ 1074) (h2 : -(2 ^ 1074) ≤ (A + B) * 10000000000000) :
    (A : Rat) * zp (-1074) + (B : Rat) * zp (-1074) ≤ 1 / 10000000000000 ∧ -(1 / 10000000000000) ≤ (A : Rat) * zp (-1074) + (B : Rat) * zp (-1074) := by
  have g1 := sc_le (n := 1074) (N := 1) (A := (A + B) * 10000000000000) (by rw [Int.one_mul]; exact h1)
  have g2 := sc_ge (n := 1074) (N := -1) (A := (A + B) * 10000000000000) (by rw [Int.neg_mul, Int.one_mul]; exact h2)
  rw [Rat.intCast_mul, Rat.intCast_add] at g1 g2
  have c1 : ((10000000000000 : Int) : Rat) = 10000000000000 := rfl
  have c2 : ((1 : Int) : Rat) = 1 := rfl
  have c3 : ((-1 : Int) : Rat) = -1 := rfl
  have c4 : (-((1074 : Nat) : Int)) = -1074 := rfl
  rw [c1, c2, c4] at g1
  rw [c1, c3, c4] at g2
  generalize zp (-1074) = z at *
  generalize (A : Rat) = a at *
  generalize (B : Rat) = b at *
  constructor <;> grind

theorem log_val {k : Nat} (hk : k < 99) : ∃ f l1 g l2 v1 v2, facB k = some f ∧ logB f = some l1 ∧ Ieee.double.div oneB f = some g ∧ logB g = some l2 ∧
    f % 2 ^ 63 ≠ 0 ∧ f < 0x7FF0000000000000 ∧ g % 2 ^ 63 ≠ 0 ∧ g < 0x7FF0000000000000 ∧ Vl l1 v1 ∧ Vl l2 v2 ∧ -5 ≤ v1 ∧ v1 ≤ 1 ∧ v1 + v2 ≤ 1 / 10000000000000 ∧ -(1 / 10000000000000) ≤ v1 + v2 := by
  have h := logOk_all k hk
  unfold logOk at h
  cases hf : facB k with
  | none => rw [hf] at h; cases h
  | some f =>
    rw [hf] at h
    dsimp only at h
    cases hl1 : logB f with
    | none => rw [hl1] at h; cases h
    | some l1 =>
      cases hg : Ieee.double.div oneB f with
      | none => rw [hl1, hg] at h; cases h
      | some g =>
        rw [hl1, hg] at h
        dsimp only at h
        cases hl2 : logB g with
        | none => rw [hl2] at h; cases h
        | some l2 =>
          rw [hl2] at h
          simp only [Bool.and_eq_true, decide_eq_true_eq, bne_iff_ne] at h
          obtain ⟨⟨⟨⟨⟨⟨⟨⟨⟨a1, a2⟩, a3⟩, a4⟩, a5⟩, a6⟩, a7⟩, a8⟩, a9⟩, a10⟩ := h
          have d := diff_val a9 a10
          have b1 := sc_ge (n := 1074) (N := -5) (A := fx l1) (by rw [Int.neg_mul]; exact a7)
          have b2 := sc_le (n := 1074) (N := 1) (A := fx l1) (by rw [Int.one_mul]; exact a8)
          exact ⟨f, l1, g, l2, _, _, rfl, hl1, hg, hl2, a1, a2, a3, a4, vl_fx a5, vl_fx a6, b1, b2, d.1, d.2⟩

theorem low_val {k : Nat} (hk : k < 101) : ∃ d a m b n c L2 L1 v1 v2, disB k = some d ∧ Ieee.double.sub oneB d = some a ∧ Ieee.double.mul twoB d = some m ∧
    Ieee.double.div oneB a = some b ∧ Ieee.double.sub 4613937818241073152 m = some n ∧ Ieee.double.add b twoB = some c ∧ Ieee.double.div a n = some L2 ∧ Ieee.double.div oneB c = some L1 ∧
    Vl L1 v1 ∧ Vl L2 v2 ∧ 0 ≤ v1 ∧ v1 ≤ 1 ∧ 0 ≤ v2 ∧ v2 ≤ 1 ∧ v1 - v2 ≤ 1 / 10000000000000 ∧ -(1 / 10000000000000) ≤ v1 - v2 := by
  have h := lowOk_all k hk
  unfold lowOk at h
  cases hd : disB k with
  | none => rw [hd] at h; cases h
  | some d =>
    rw [hd] at h
    dsimp only at h
    cases ha : Ieee.double.sub oneB d with
    | none => rw [ha] at h; cases h
    | some a =>
      cases hm : Ieee.double.mul twoB d with
      | none => rw [ha, hm] at h; cases h
      | some m =>
        rw [ha, hm] at h
        dsimp only at h
        cases hb : Ieee.double.div oneB a with
        | none => rw [hb] at h; cases h
        | some b =>
          cases hn : Ieee.double.sub 4613937818241073152 m with
          | none => rw [hb, hn] at h; cases h
          | some n =>
            rw [hb, hn] at h
            dsimp only at h
            cases hc : Ieee.double.add b twoB with
            | none => rw [hc] at h; cases h
            | some c =>
              cases hl2 : Ieee.double.div a n with
              | none => rw [hc, hl2] at h; cases h
              | some L2 =>
                rw [hc, hl2] at h
                dsimp only at h
                cases hl1 : Ieee.double.div oneB c with
                | none => rw [hl1] at h; cases h
                | some L1 =>
                  rw [hl1] at h
                  simp only [Bool.and_eq_true, decide_eq_true_eq] at h
                  obtain ⟨⟨⟨⟨⟨⟨⟨a1, a2⟩, a3⟩, a4⟩, a5⟩, a6⟩, a7⟩, a8⟩ := h
                  have dd := diff_val a7 a8
                  rw [Rat.intCast_neg] at dd
                  have b1 := sc_ge (n := 1074) (N := 0) (A := fx L1) (by rw [Int.zero_mul]; exact a3)
                  have b2 := sc_le (n := 1074) (N := 1) (A := fx L1) (by rw [Int.one_mul]; exact a4)
                  have b3 := sc_ge (n := 1074) (N := 0) (A := fx L2) (by rw [Int.zero_mul]; exact a5)
                  have b4 := sc_le (n := 1074) (N := 1) (A := fx L2) (by rw [Int.one_mul]; exact a6)
                  have e1 : (fx L1 : Rat) * zp (-1074) + -(fx L2 : Rat) * zp (-1074) = (fx L1 : Rat) * zp (-1074) - (fx L2 : Rat) * zp (-1074) := by
                    rw [Rat.neg_mul, Rat.sub_eq_add_neg]
                  rw [e1] at dd
                  exact ⟨d, a, m, b, n, c, L2, L1, _, _, rfl, ha, hm, hb, hn, hc, hl2, hl1, vl_fx a1, vl_fx a2, b1, b2, b3, b4, dd.1, dd.2⟩

end Go.Proofs.Ybulkuac
