import Derived.Test.YbulktzaPut
import Derived.BigQuiet
import Derived.Deep.RegionWith
namespace Go.Proofs.Ybulktza.lawS1014AExact
open Go.RowKit

set_option maxHeartbeats 1600000 in
theorem varint_any (B n : Nat) (x : Int) (h0 : -9223372036854775808 ≤ x) (h1 : x ≤ 9223372036854775807) (sv : Value) (xs : List Value) (w : World) (hown : w.ownsRow B 5 1 sv n xs) (hBw : B ≤ w.heap.size) (hlim : n + 10 ≤ 140737488355328) :
    Calls Yba.prog 10 #[sv, .int .i64 x] w fun e w' => ∃ v', e = .returned v' ∧ w'.ownsRow B 5 1 v' (n + (Lib.uvarint (Lib.zigzag x)).length) (xs ++ Lib.byteCells (Lib.uvarint (Lib.zigzag x))) ∧ Fr B w w' := by
  have hU := uvar_any B n (Lib.zigzag x) (Lib.zigzag_lt h0 h1) sv xs w hown hBw hlim
  by_cases hneg : x < 0
  · rw [← Lib.zigzag_neg h0 hneg] at hU
    go_enter Yba.func10, Yba.ntmps10
    go_wp2_with (go_at_call 9; refine hU.mono ?_; rintro e w1 ⟨v', rfl, ho, hb⟩)
    go_wp2
    go_ret
    exact ⟨v', rfl, ho, hb⟩
  · rw [Lib.zigzag_nonneg (by omega)] at hU
    go_enter Yba.func10, Yba.ntmps10
    go_wp2_with (go_at_call 9; refine hU.mono ?_; rintro e w1 ⟨v', rfl, ho, hb⟩)
    go_wp2
    go_ret
    exact ⟨v', rfl, ho, hb⟩

/-- The varints of a row of numbers, one behind another. -/
def vars (l : List Int) : List UInt8 := l.flatMap fun z => Lib.uvarint z.toNat

theorem vars_len (l : List Int) (h : ∀ z ∈ l, 0 ≤ z ∧ z < 18446744073709551616) : (vars l).length ≤ 10 * l.length := by
  induction l with
  | nil => simp [vars]
  | cons a t ih =>
    have h1 := ih (fun z hz => h z (by simp [hz]))
    have h2 := h a (by simp)
    have h3 := Lib.uvarint_length64 (x := a.toNat) (by omega)
    simp only [vars, List.flatMap_cons, List.length_append, List.length_cons] at *
    omega

theorem vars_snoc (l : List Int) (a : Int) : vars (l ++ [a]) = vars l ++ Lib.uvarint a.toNat := by simp [vars]

/-- THE VECTOR in memory: the first 'len' numbers. -/
def Vec (B : Nat) (w : World) (a : Option Addr) (zs : List Int) : Prop :=
  (∀ i, i < zs.length → ∃ x, a = some x ∧ x.block < B ∧ w.cell? (x.add i) = some (.int .u64 (zs.getD i 0))) ∧ ∀ z ∈ zs, 0 ≤ z ∧ z < 18446744073709551616

theorem Vec.fr {B : Nat} {w w' : World} {a : Option Addr} {zs : List Int} (h : Vec B w a zs) (hb : Below B w w') : Vec B w' a zs := by
  refine ⟨fun i hi => ?_, h.2⟩
  obtain ⟨x, rfl, hx, hc⟩ := h.1 i hi
  refine ⟨x, rfl, hx, ?_⟩
  rw [hb.cell (by unfold Addr.add; split <;> simpa using hx)]
  exact hc

set_option maxHeartbeats 1600000 in
theorem counts_any (B n : Nat) (a : Option Addr) (cap : Nat) (zs : List Int) (hzl : zs.length ≤ 1024) (sv : Value) (xs : List Value) (w : World) (hv : Vec B w a zs) (hown : w.ownsRow B 5 1 sv n xs) (hBw : B ≤ w.heap.size) (hlim : n + 20000 ≤ 140737488355328) :
    Calls Yba.prog 15 #[sv, .slice a zs.length cap] w fun e w' => ∃ v', e = .returned v' ∧ w'.ownsRow B 5 1 v' (n + (vars zs).length) (xs ++ Lib.byteCells (vars zs)) ∧ Fr B w w' := by
  go_enter Yba.func15, Yba.ntmps15
  go_wp2
  go_loopw [0, 9] (fun vb vi wr => ∃ k : Nat, k ≤ zs.length ∧ vi = .int .i64 k ∧ wr.ownsRow B 5 1 vb (n + (vars (zs.take k)).length) (xs ++ Lib.byteCells (vars (zs.take k))) ∧ Fr B w wr)
    (fun _ vi _ => zs.length - (intOf vi).toNat)
  case atStart => exact ⟨0, Nat.zero_le _, rfl, by simpa [vars, Lib.byteCells] using hown, Fr.refl _ _⟩
  case round =>
    obtain ⟨k, hk, rfl, hown1, hnx⟩ := hrel
    have hvl := vars_len (zs.take k) (fun z hz => hv.2 z (List.mem_of_mem_take hz))
    have htl : (zs.take k).length ≤ k := List.length_take_le _ _
    by_cases hlt : k < zs.length
    · obtain ⟨x, rfl, hxb, hc⟩ := (hv.fr hnx.1).1 k hlt
      obtain ⟨z, hz⟩ : ∃ z, z = zs.getD k 0 := ⟨_, rfl⟩
      rw [← hz] at hc
      have hzm : z ∈ zs := by rw [hz]; simp [hlt]
      obtain ⟨hz0, hz1⟩ := hv.2 z hzm
      have hU := uvar_any B (n + (vars (zs.take k)).length) z.toNat (by omega) u0 _ wr hown1 (Nat.le_trans hBw hnx.1.size) (by omega)
      rw [Int.toNat_of_nonneg hz0] at hU
      have hts : zs.take (k + 1) = zs.take k ++ [z] := by rw [List.take_succ_eq_append_getElem hlt, hz]; simp [hlt]
      have HZ : Hid (zs.take (k + 1) = zs.take k ++ [z]) := hts
      have HU := hU
      clear hts hz hzm hU
      go_wp2_with (go_at_call 9; refine HU.mono ?_; rintro e w1 ⟨v', rfl, ho, hb⟩)
      go_roundw
      case rel =>
        refine ⟨k + 1, by omega, by go_num, ?_, hnx.trans hb⟩
        rw [HZ.out, vars_snoc, Lib.byteCells_append, List.length_append, ← Nat.add_assoc, ← List.append_assoc]
        exact ho
      case measure => simp [intOf]; omega
    · go_wp2
      go_ret
      obtain rfl : k = zs.length := by omega
      rw [List.take_length] at hown1
      exact ⟨u0, rfl, hown1, hnx⟩

end Go.Proofs.Ybulktza.lawS1014AExact
