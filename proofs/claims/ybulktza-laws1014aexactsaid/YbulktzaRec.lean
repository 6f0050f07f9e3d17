import Derived.Test.YbulktzaEnc
namespace Go.Proofs.Ybulktza.lawS1014AExact
open Go.RowKit

set_option maxHeartbeats 1600000 in
theorem vector_any (B n : Nat) (a : Option Addr) (cap : Nat) (zs : List Int) (hzl : zs.length ≤ 1024) (sv : Value) (xs : List Value) (w : World) (hv : Vec B w a zs) (hown : w.ownsRow B 5 1 sv n xs) (hBw : B ≤ w.heap.size) (hlim : n + 30000 ≤ 140737488355328) :
    Calls Yba.prog 14 #[sv, .slice a zs.length cap] w fun e w' => ∃ v', e = .returned v' ∧ w'.ownsRow B 5 1 v' (n + (Lib.uvarint zs.length ++ vars zs).length) (xs ++ Lib.byteCells (Lib.uvarint zs.length ++ vars zs)) ∧ Fr B w w' := by
  have hU := uvar_any B n zs.length (by omega) sv xs w hown hBw (by omega)
  have hl := Lib.uvarint_length64 (x := zs.length) (by omega)
  go_enter Yba.func14, Yba.ntmps14
  go_wp2_with (go_at_call 9; refine hU.mono ?_; rintro e w1 ⟨v1, rfl, ho1, hb1⟩)
  have hC := counts_any B _ a cap zs hzl v1 _ w1 (hv.fr hb1.1) ho1 (Nat.le_trans hBw hb1.1.size) (by omega)
  go_wp2_with (go_at_call 15; refine hC.mono ?_; rintro e w2 ⟨v2, rfl, ho2, hb2⟩)
  go_ret
  refine ⟨v2, rfl, ?_, hb1.trans hb2⟩
  rw [Lib.byteCells_append, List.length_append, ← Nat.add_assoc, ← List.append_assoc]
  exact ho2

/-- What Timestamp.AppendBinary appends. -/
def tsBytes (l : Nat) (zs : List Int) : List UInt8 := Lib.uvarint l ++ (Lib.uvarint zs.length ++ vars zs)

theorem tsBytes_len (l : Nat) (hl : l < 18446744073709551616) (zs : List Int) (hzl : zs.length ≤ 1024) (hz : ∀ z ∈ zs, 0 ≤ z ∧ z < 18446744073709551616) : (tsBytes l zs).length ≤ 10260 := by
  have h1 := Lib.uvarint_length64 hl
  have h2 := Lib.uvarint_length64 (x := zs.length) (by omega)
  have h3 := vars_len zs hz
  simp only [tsBytes, List.length_append]
  omega

theorem box_cell {w w1 : World} {cs : Array Value} {T : TypeId} (hT : T ≠ 5) (hk : Lib.OthersKept 5 none (w.alloc (.cells cs T)) w1) (j : Nat) (v : Value) (hj : cs[j]? = some v) : w1.cell? ⟨w.heap.size, j, none⟩ = some v := by
  have h1 := hk w.heap.size _ (heap_alloc_new w _) (by simp) (by intro c fz he; cases he; exact hT rfl)
  rw [cell_of_row w1 w.heap.size j cs T (0, 0) h1]
  exact hj

set_option maxHeartbeats 1600000 in
theorem ts_any (B n l : Nat) (hl : l < 18446744073709551616) (a : Option Addr) (cap : Nat) (zs : List Int) (hzl : zs.length ≤ 1024) (sv : Value) (xs : List Value) (w : World) (hv : Vec B w a zs) (hown : w.ownsRow B 5 1 sv n xs) (hBw : B ≤ w.heap.size) (hlim : n + 40000 ≤ 140737488355328) :
    Calls Yba.prog 12 #[.agg #[.int .u64 l, .slice a zs.length cap], sv] w fun e w' => ∃ v', e = .returned (.tuple #[v', .nilIface]) ∧ w'.ownsRow B 5 1 v' (n + (tsBytes l zs).length) (xs ++ Lib.byteCells (tsBytes l zs)) ∧ Fr B w w' := by
  have hll := Lib.uvarint_length64 hl
  have hfr0 := (Fr.refl B w).alloc hBw (Obj.cells #[Value.int IntKind.u64 l, Value.slice a zs.length cap] 27)
  have hU := uvar_any B n l hl sv xs (w.alloc (Obj.cells #[Value.int IntKind.u64 l, Value.slice a zs.length cap] 27)) (hown.alloc _) (Nat.le_trans hBw hfr0.1.size) (by omega)
  go_enter Yba.func12, Yba.ntmps12
  go_wp2_with (go_at_call 9; refine hU.mono ?_; rintro e w1 ⟨v1, rfl, ho1, hb1⟩; have hc1 := box_cell (by decide) hb1.2 1 (Value.slice a zs.length cap) rfl)
  have hfr1 := hfr0.trans hb1
  have hC := vector_any B _ a cap zs hzl v1 _ w1 (hv.fr hfr1.1) ho1 (Nat.le_trans hBw hfr1.1.size) (by omega)
  go_wp2_with (go_at_call 14; refine hC.mono ?_; rintro e w2 ⟨v2, rfl, ho2, hb2⟩)
  go_ret2
  refine ⟨v2, rfl, ?_, hfr1.trans hb2⟩
  rw [tsBytes, Lib.byteCells_append, List.length_append, ← Nat.add_assoc, ← List.append_assoc]
  exact ho2

end Go.Proofs.Ybulktza.lawS1014AExact
