import Derived.Test.YbulkuacAlg
import Derived.Test.YbulkuacEnum
namespace Go.Proofs.Ybulkuac
open Go Ieee

abbrev oneB : Nat := 4607182418800017408
abbrev twoB : Nat := 4611686018427387904
abbrev minB : Nat := 4503599627370496
abbrev nanoB : Nat := 4472406533629990549

def maxO (x y : Nat) : Option Nat := if isN x && isN y then some (pickB false .gt x y) else none
def minO (x y : Nat) : Option Nat := if isN x && isN y then some (pickB true .lt x y) else none

def geB (x y : Nat) : Bool := Ieee.double.order x y == some .gt || Ieee.double.order x y == some .eq
def gtB (x y : Nat) : Bool := Ieee.double.order x y == some .gt
def leB (x y : Nat) : Bool := Ieee.double.order x y == some .lt || Ieee.double.order x y == some .eq

def max3B (a b c : Nat) : Nat :=
  let m := if gtB b a then b else a
  if gtB c m then c else m

def shareB (s f : Nat) : Option Nat := do
  let n ← Ieee.double.add s oneB
  let k ← Ieee.double.add s f
  let d ← Ieee.double.add k twoB
  Ieee.double.div n d

def cutB (S r : Nat) : Option Nat := do
  let a ← Ieee.double.sub r S
  let b ← Ieee.double.div r twoB
  maxO a b

def targetB (S fl r : Nat) : Option Nat := do
  let c ← cutB S r
  maxO c fl

def keptB (t f : Nat) : Option Nat := do
  let F2 ← Ieee.double.add f twoB
  let P ← Ieee.double.mul t F2
  let N ← Ieee.double.sub P oneB
  let Dn ← Ieee.double.sub oneB t
  Ieee.double.div N Dn

def failB (t : Nat) : Option Nat := do
  let w ← Ieee.double.div oneB t
  Ieee.double.sub w twoB

def wantB (S fl r : Nat) : Option Nat := do
  let a ← Ieee.double.sub r S
  let b ← Ieee.double.div r twoB
  minO (max3B a b fl) r

theorem isN_of {x : Nat} {v : Rat} (h : Vl x v) : isN x = true := by
  obtain ⟨s, m, p, hr, _⟩ := h
  unfold isN
  rw [hr]

theorem vl_one : Vl oneB 1 := by
  refine ⟨false, 2 ^ 52, -52, by decide, ?_⟩
  have := mval_shift 1 52 (-52)
  rw [Nat.one_mul] at this
  rw [show sgn false (mval (2 ^ 52) (-52)) = mval (2 ^ 52) (-52) from rfl, this]
  unfold mval
  rw [show (-52 : Int) + ((52 : Nat) : Int) = 0 from rfl, zp_zero, show ((1 : Nat) : Rat) = 1 from rfl, Rat.one_mul]

theorem vl_two : Vl twoB 2 := by
  refine ⟨false, 2 ^ 52, -51, by decide, ?_⟩
  have := mval_shift 1 52 (-51)
  rw [Nat.one_mul] at this
  rw [show sgn false (mval (2 ^ 52) (-51)) = mval (2 ^ 52) (-51) from rfl, this]
  unfold mval
  rw [show (-51 : Int) + ((52 : Nat) : Int) = 1 from rfl, zp_one, show ((1 : Nat) : Rat) = 1 from rfl, Rat.one_mul]

theorem vl_zero : Vl 0 0 := by
  refine ⟨false, 0, -1074, by decide, ?_⟩
  rw [show sgn false (mval 0 (-1074)) = mval 0 (-1074) from rfl]
  unfold mval
  rw [show ((0 : Nat) : Rat) = 0 from rfl, Rat.zero_mul]

theorem vl_min : ∃ μ, Vl minB μ ∧ 0 ≤ μ ∧ μ ≤ 1 / 1000 := by
  refine ⟨_, ⟨false, 2 ^ 52, -1074, by decide, rfl⟩, mval_nonneg _ _, ?_⟩
  have := mval_shift 1 52 (-1074)
  rw [Nat.one_mul] at this
  rw [show sgn false (mval (2 ^ 52) (-1074)) = mval (2 ^ 52) (-1074) from rfl, this]
  unfold mval
  rw [show (-1074 : Int) + ((52 : Nat) : Int) = -1022 from rfl]
  have h1 : zp (-1022) ≤ zp (-53) := zp_mono (by decide)
  have h2 := tiny
  have h3 : ((1 : Nat) : Rat) = 1 := rfl
  rw [h3]
  grind

theorem vl_nano : ∃ μ, Vl nanoB μ ∧ 1 / 2000000000 ≤ μ := by
  refine ⟨_, ⟨false, 4835703278458517, -82, by decide, rfl⟩, ?_⟩
  rw [show sgn false (mval 4835703278458517 (-82)) = mval 4835703278458517 (-82) from rfl]
  unfold mval
  have h := zp_neg 82
  have h1 : zp 82 = 4835703278458516698824704 := zp_nat 82
  rw [h1] at h
  have h3 : ((4835703278458517 : Nat) : Rat) = 4835703278458517 := rfl
  rw [h3]
  rw [show -(82 : Int) = -82 from rfl] at h
  grind

theorem geB_val {x y : Nat} {a b : Rat} (hx : Vl x a) (hy : Vl y b) : (geB x y = true → b ≤ a) ∧ (geB x y = false → a < b) := by
  have ho := order_val hx hy
  unfold geB
  by_cases h : a < b
  · rw [ho.1 h]; exact ⟨fun g => (by cases g), fun _ => h⟩
  · have h' : b ≤ a := Rat.not_lt.1 h
    refine ⟨fun _ => h', fun g => ?_⟩
    by_cases e : a = b
    · rw [ho.2.1 e] at g; cases g
    · rw [ho.2.2 (by grind)] at g; cases g

theorem gtB_val {x y : Nat} {a b : Rat} (hx : Vl x a) (hy : Vl y b) : (gtB x y = true → b < a) ∧ (gtB x y = false → a ≤ b) := by
  have ho := order_val hx hy
  unfold gtB
  by_cases h : b < a
  · rw [ho.2.2 h]; exact ⟨fun _ => h, fun g => by cases g⟩
  · have h' : a ≤ b := Rat.not_lt.1 h
    refine ⟨fun g => ?_, fun _ => h'⟩
    by_cases e : a = b
    · rw [ho.2.1 e] at g; cases g
    · rw [ho.1 (by grind)] at g; cases g

theorem leB_val {x y : Nat} {a b : Rat} (hx : Vl x a) (hy : Vl y b) (h : a ≤ b) : leB x y = true := by
  have ho := order_val hx hy
  unfold leB
  by_cases e : a = b
  · rw [ho.2.1 e]; rfl
  · rw [ho.1 (by grind)]; rfl

theorem maxO_val {x y : Nat} {a b : Rat} (hx : Vl x a) (hy : Vl y b) : ∃ r v, maxO x y = some r ∧ Vl r v ∧ a ≤ v ∧ b ≤ v ∧ (v = a ∨ v = b) := by
  unfold maxO
  rw [isN_of hx, isN_of hy]
  rcases maxB_val hx hy with ⟨_, h2, h3⟩ | ⟨_, h2, h3⟩
  · exact ⟨_, _, rfl, h2, Rat.le_refl, h3, .inl rfl⟩
  · exact ⟨_, _, rfl, h2, h3, Rat.le_refl, .inr rfl⟩

theorem minO_val {x y : Nat} {a b : Rat} (hx : Vl x a) (hy : Vl y b) : ∃ r v, minO x y = some r ∧ Vl r v ∧ v ≤ a ∧ v ≤ b ∧ (v = a ∨ v = b) := by
  unfold minO
  rw [isN_of hx, isN_of hy]
  rcases minB_val hx hy with ⟨_, h2, h3⟩ | ⟨_, h2, h3⟩
  · exact ⟨_, _, rfl, h2, Rat.le_refl, h3, .inl rfl⟩
  · exact ⟨_, _, rfl, h2, h3, Rat.le_refl, .inr rfl⟩

theorem max3_val {x y z : Nat} {a b c : Rat} (hx : Vl x a) (hy : Vl y b) (hz : Vl z c) : ∃ v, Vl (max3B x y z) v ∧ a ≤ v ∧ b ≤ v ∧ c ≤ v ∧ (v = a ∨ v = b ∨ v = c) := by
  have h1 : ∃ m, Vl (if gtB y x then y else x) m ∧ a ≤ m ∧ b ≤ m ∧ (m = a ∨ m = b) := by
    have hg := gtB_val hy hx
    by_cases g : gtB y x = true
    · rw [if_pos g]; exact ⟨b, hy, Rat.le_of_lt (hg.1 g), Rat.le_refl, .inr rfl⟩
    · rw [if_neg g]; exact ⟨a, hx, Rat.le_refl, hg.2 (by simpa using g), .inl rfl⟩
  obtain ⟨m, hm, h2, h3, h4⟩ := h1
  unfold max3B
  dsimp only
  generalize (if gtB y x then y else x) = M at *
  have hg := gtB_val hz hm
  by_cases g : gtB z M = true
  · rw [if_pos g]
    have := hg.1 g
    exact ⟨c, hz, by grind, by grind, Rat.le_refl, .inr (.inr rfl)⟩
  · rw [if_neg g]
    have := hg.2 (by simpa using g)
    refine ⟨m, hm, h2, h3, this, ?_⟩
    rcases h4 with h | h
    · exact .inl h
    · exact .inr (.inl h)

end Go.Proofs.Ybulkuac
