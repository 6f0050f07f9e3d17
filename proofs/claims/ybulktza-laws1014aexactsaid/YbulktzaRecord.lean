import Derived.Test.YbulktzaPlaced
namespace Go.Proofs.Ybulktza.lawS1014AExact
open Go.RowKit

/-- What Record.AppendBinary appends. -/
def recBytes (s : Nat) (c p : Int) (f l : Nat) (zs : List Int) : List UInt8 := Lib.uvarint s ++ (Lib.uvarint (Lib.zigzag c) ++ plBytes p f l zs)

set_option maxHeartbeats 1600000 in
theorem record_any (B n s l : Nat) (hs : s < 18446744073709551616) (hl : l < 18446744073709551616) (p : Int) (hp0 : -9223372036854775808 ≤ p) (h1 : p ≤ 9223372036854775807) (c : Int) (hc0 : -9223372036854775808 ≤ c) (hc1 : c ≤ 9223372036854775807) (b : Bool) (a : Option Addr) (cap : Nat) (zs : List Int) (hzl : zs.length ≤ 1024) (sv : Value) (xs : List Value) (w : World) (hv : Vec B w a zs) (hown : w.ownsRow B 5 1 sv n xs) (hBw : B ≤ w.heap.size) (hlim : n + 60000 ≤ 140737488355328) :
    Calls Yba.prog 5 #[.agg #[.int .u64 s, .int .i64 p, .int .i64 c, .bool b, .int .u64 l, .slice a zs.length cap], sv] w fun e w' => ∃ v', e = .returned (.tuple #[v', .nilIface]) ∧ w'.ownsRow B 5 1 v' (n + (recBytes s c p b.toNat l zs).length) (xs ++ Lib.byteCells (recBytes s c p b.toNat l zs)) ∧ Fr B w w' := by
  have hll := Lib.uvarint_length64 hs
  have hlz := Lib.uvarint_length64 (Lib.zigzag_lt hc0 hc1)
  obtain ⟨O, hO⟩ : ∃ O : Obj, O = Obj.cells #[.int .u64 s, .int .i64 p, .int .i64 c, .bool b, .int .u64 l, .slice a zs.length cap] 29 := ⟨_, rfl⟩
  have hfr0 := (Fr.refl B w).alloc hBw O
  have hU := uvar_any B n s hs sv xs (w.alloc O) (hown.alloc _) (Nat.le_trans hBw hfr0.1.size) (by omega)
  subst hO
  cases b
  all_goals
    go_enter Yba.func5, Yba.ntmps5
    go_wp2_with (go_at_call 9; refine hU.mono ?_; rintro e w1 ⟨v1, rfl, ho1, hb1⟩; have hq0 := box_cell (by decide) hb1.2 1 _ rfl; have hq1 := box_cell (by decide) hb1.2 2 _ rfl; have hq2 := box_cell (by decide) hb1.2 3 _ rfl)
    have hfr1 := hfr0.trans hb1
    have hV := varint_any B _ c hc0 hc1 v1 _ w1 ho1 (Nat.le_trans hBw hfr1.1.size) (by omega)
    go_wp2_with (go_at_call 10; refine hV.mono ?_; rintro e w2 ⟨v2, rfl, ho2, hb2⟩; have hr1 := box_cell (by decide) (hb1.2.trans hb2.2) 1 _ rfl; have hr3 := box_cell (by decide) (hb1.2.trans hb2.2) 3 _ rfl; have hr4 := box_cell (by decide) (hb1.2.trans hb2.2) 4 _ rfl; have hr5 := box_cell (by decide) (hb1.2.trans hb2.2) 5 _ rfl)
    have hfr2 := hfr1.trans hb2
  · have hP := placed_any B _ l hl p hp0 h1 0 (by decide) a cap zs hzl v2 _ w2 (hv.fr hfr2.1) ho2 (Nat.le_trans hBw hfr2.1.size) (by omega)
    rw [show ((0 : Nat) : Int) = 0 from rfl] at hP
    refine hP.mono ?_
    rintro e w3 ⟨v3, rfl, ho3, hb3⟩
    go_wp2
    go_ret2
    refine ⟨v3, rfl, ?_, hfr2.trans hb3⟩
    rw [recBytes, Bool.toNat_false, Lib.byteCells_append, Lib.byteCells_append, List.length_append, List.length_append, ← Nat.add_assoc, ← List.append_assoc, ← Nat.add_assoc, ← List.append_assoc]
    exact ho3
  · have hP := placed_any B _ l hl p hp0 h1 1 (by decide) a cap zs hzl v2 _ w2 (hv.fr hfr2.1) ho2 (Nat.le_trans hBw hfr2.1.size) (by omega)
    rw [show ((1 : Nat) : Int) = 1 from rfl] at hP
    refine hP.mono ?_
    rintro e w3 ⟨v3, rfl, ho3, hb3⟩
    go_wp2
    go_ret2
    refine ⟨v3, rfl, ?_, hfr2.trans hb3⟩
    rw [recBytes, Bool.toNat_true, Lib.byteCells_append, Lib.byteCells_append, List.length_append, List.length_append, ← Nat.add_assoc, ← List.append_assoc, ← Nat.add_assoc, ← List.append_assoc]
    exact ho3

end Go.Proofs.Ybulktza.lawS1014AExact
