import Derived.Lib.VarintMem
import Derived.Lib.VarintBits
namespace Go.Proofs.YbulktzaFmt
open Go

/-- THE BYTES OF A VARINT: every one but the last bears the bit 128; what each says of the number. -/
theorem uv_get (x : Nat) : ∀ (i : Nat) (h : i < (Lib.uvarint x).length),
    (i + 1 < (Lib.uvarint x).length → 128 ≤ x / 128 ^ i ∧ ((Lib.uvarint x)[i]).toNat = x / 128 ^ i % 128 + 128) ∧
    (i + 1 = (Lib.uvarint x).length → x / 128 ^ i < 128 ∧ ((Lib.uvarint x)[i]).toNat = x / 128 ^ i) := by
  induction x using Nat.strongRecOn with
  | ind x ih =>
    intro i h
    by_cases hx : x < 128
    · have e := Lib.uvarint_small hx
      have hl : (Lib.uvarint x).length = 1 := by rw [e]; rfl
      obtain rfl : i = 0 := by omega
      refine ⟨fun h2 => by omega, fun _ => ⟨by simpa using hx, ?_⟩⟩
      simp only [e, List.getElem_cons_zero, Nat.pow_zero, Nat.div_one]
      exact Lib.toUInt8_toNat (by omega)
    · have e := Lib.uvarint_big (x := x) (by omega)
      have hl : (Lib.uvarint x).length = (Lib.uvarint (x / 128)).length + 1 := by rw [e]; rfl
      have hp := Lib.uvarint_pos (x / 128)
      cases i with
      | zero =>
        refine ⟨fun _ => ⟨by simp; omega, ?_⟩, fun h2 => by omega⟩
        simp only [e, List.getElem_cons_zero, Nat.pow_zero, Nat.div_one]
        exact Lib.toUInt8_toNat (by omega)
      | succ j =>
        have hj := ih (x / 128) (by omega) j (by omega)
        have hd : x / 128 / 128 ^ j = x / 128 ^ (j + 1) := by rw [Nat.div_div_eq_div_mul, Nat.pow_succ, Nat.mul_comm]
        rw [hd] at hj
        simp only [e, List.getElem_cons_succ, List.length_cons]
        exact ⟨fun h2 => hj.1 (by omega), fun h2 => hj.2 (by omega)⟩

theorem pow_lt (i : Nat) (h : i < 10) : 128 ^ i ≤ 9223372036854775808 :=
  Nat.le_trans (Nat.pow_le_pow_right (by decide) (show i ≤ 9 by omega)) (by decide)

/-- The last byte of a varint of more than one byte is not zero. -/
theorem uv_last_pos (x i : Nat) (h : i + 1 = (Lib.uvarint x).length) (hi : 0 < i) : 0 < x / 128 ^ i := by
  obtain ⟨j, rfl⟩ : ∃ j, i = j + 1 := ⟨i - 1, by omega⟩
  have hj := ((uv_get x j (by omega)).1 (by omega)).1
  rw [Nat.pow_succ, ← Nat.div_div_eq_div_mul]
  omega

theorem uv_tenth (x : Nat) (hx : x < 18446744073709551616) : x / 128 ^ 9 ≤ 1 := by
  have e : (128 : Nat) ^ 9 = 9223372036854775808 := by decide
  rw [e]; omega

/-- One byte more. -/
theorem acc_step (x k : Nat) : x % 128 ^ k + x / 128 ^ k % 128 * 128 ^ k = x % 128 ^ (k + 1) := by
  rw [Nat.pow_succ, Nat.mod_mul, Nat.mul_comm (128 ^ k)]

theorem acc_last (x k : Nat) : x % 128 ^ k + x / 128 ^ k * 128 ^ k = x := by
  rw [Nat.mul_comm]; exact Nat.mod_add_div x (128 ^ k)

/-- 'acc | v << 7k' IS A SUM. -/
theorem or_sum (k acc v : Nat) (hk : k < 10) (hacc : acc < 128 ^ k) (hv : v * 128 ^ k < 18446744073709551616) :
    bits .or .u64 (acc : Int) ((v * 128 ^ k : Nat) : Int) = ((acc + v * 128 ^ k : Nat) : Int) := by
  have e : ((2 : Int) ^ (7 * k)) = ((128 ^ k : Nat) : Int) := by
    rw [Int.pow_mul]; simp
  have hp := pow_lt k hk
  have h := bits_join_low .u64 64 (by decide) wraps_u64 (7 * k) (acc : Int) ((v * 128 ^ k : Nat) : Int) (by omega) (by rw [e]; omega) (by omega) (by omega) (by rw [e]; simp) (by omega)
  rw [h]; simp

theorem shl_cast (v k : Nat) : (v : Int) * 2 ^ (7 * k) = ((v * 128 ^ k : Nat) : Int) := by
  rw [Int.pow_mul]; simp

theorem or_last (x k : Nat) (hx : x < 18446744073709551616) (hk : k < 10) :
    bits .or .u64 ((x % 128 ^ k : Nat) : Int) (IntKind.u64.wrap (((x / 128 ^ k : Nat) : Int) * 2 ^ (7 * k))) = (x : Int) := by
  have h1 := acc_last x k
  have h2 : x / 128 ^ k * 128 ^ k < 18446744073709551616 := by omega
  rw [shl_cast, u64_wrap_id _ (by omega) (by omega), or_sum k _ _ hk (Nat.mod_lt _ (Nat.pow_pos (by decide))) h2, h1]

theorem or_last9 (x : Nat) (hx : x < 18446744073709551616) :
    bits .or .u64 ((x % 128 ^ 9 : Nat) : Int) (((x / 128 ^ 9 : Nat) : Int) * 9223372036854775808) = (x : Int) := by
  have h := or_last x 9 hx (by decide)
  have h2 := uv_tenth x hx
  have e : (2 : Int) ^ (7 * 9) = 9223372036854775808 := by decide
  rw [e, u64_wrap_id _ (by omega) (by omega)] at h
  exact h

theorem or_mid (x k b : Nat) (hk : k < 9) (hb : b = x / 128 ^ k % 128 + 128) :
    bits .or .u64 ((x % 128 ^ k : Nat) : Int) (IntKind.u64.wrap (IntKind.u64.wrap (bits .and .u8 (b : Int) 127) * 2 ^ (7 * k))) = ((x % 128 ^ (k + 1) : Nat) : Int) := by
  have hb2 : b < 256 := by omega
  have e1 : bits .and .u8 (b : Int) 127 = ((x / 128 ^ k % 128 : Nat) : Int) := by
    rw [u8_and127 _ (by omega) (by omega)]; omega
  have hp : 128 ^ k ≤ 72057594037927936 := Nat.le_trans (Nat.pow_le_pow_right (by decide) (show k ≤ 8 by omega)) (by decide)
  have h3 : x / 128 ^ k % 128 * 128 ^ k ≤ 127 * 72057594037927936 := Nat.mul_le_mul (by omega) hp
  have e2 : IntKind.u64.wrap ((x / 128 ^ k % 128 : Nat) : Int) = ((x / 128 ^ k % 128 : Nat) : Int) := u64_wrap_id _ (by omega) (by omega)
  rw [e1, e2, shl_cast, u64_wrap_id _ (by omega) (by omega), or_sum k _ _ (by omega) (Nat.mod_lt _ (Nat.pow_pos (by decide))) (by omega), acc_step]

/-- The varints of a row of numbers, one behind another. -/
def vars (l : List Nat) : List UInt8 := l.flatMap fun z => Lib.uvarint z

theorem vars_len (l : List Nat) (h : ∀ z ∈ l, z < 18446744073709551616) : (vars l).length ≤ 10 * l.length := by
  induction l with
  | nil => simp [vars]
  | cons a t ih =>
    have h1 := ih (fun z hz => h z (by simp [hz]))
    have h3 := Lib.uvarint_length64 (h a (by simp))
    simp only [vars, List.flatMap_cons, List.length_append, List.length_cons] at *
    omega

theorem vars_ge (l : List Nat) : l.length ≤ (vars l).length := by
  induction l with
  | nil => simp [vars]
  | cons a t ih =>
    have h3 := Lib.uvarint_pos a
    simp only [vars, List.flatMap_cons, List.length_append, List.length_cons] at *
    omega

theorem vars_snoc (l : List Nat) (a : Nat) : vars (l ++ [a]) = vars l ++ Lib.uvarint a := by simp [vars]

/-- The varints, cut at the k-th number. -/
theorem vars_split (l : List Nat) (k : Nat) (h : k < l.length) : vars l = vars (l.take k) ++ (Lib.uvarint (l[k]) ++ vars (l.drop (k + 1))) := by
  have e : l = l.take k ++ (l[k] :: l.drop (k + 1)) := by
    rw [← List.drop_eq_getElem_cons h, List.take_append_drop]
  have e2 : ∀ (a b : List Nat) (z : Nat), vars (a ++ (z :: b)) = vars a ++ (Lib.uvarint z ++ vars b) := by intro a b z; simp [vars]
  rw [← e2, ← e]

theorem vars_take_succ (l : List Nat) (k : Nat) (h : k < l.length) : vars (l.take (k + 1)) = vars (l.take k) ++ Lib.uvarint (l[k]) := by
  rw [List.take_succ_eq_append_getElem h, vars_snoc]

theorem vars_take_len (l : List Nat) (k : Nat) (h : k < l.length) : (vars (l.take (k + 1))).length = (vars (l.take k)).length + (Lib.uvarint (l[k])).length := by
  rw [vars_take_succ l k h, List.length_append]

theorem vars_take_le (l : List Nat) (k : Nat) (h : k < l.length) : (vars (l.take k)).length + (Lib.uvarint (l[k])).length ≤ (vars l).length := by
  have := congrArg List.length (vars_split l k h)
  simp only [List.length_append] at this
  omega

end Go.Proofs.YbulktzaFmt
