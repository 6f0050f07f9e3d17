import Derived.Test.YbulktzaPlace
namespace Go.Proofs.Ybulktza.lawS1014AExact
open Go.RowKit

/-- What appendPlaced appends. -/
def plBytes (p : Int) (f l : Nat) (zs : List Int) : List UInt8 := Lib.uvarint (plc p f) ++ tsBytes l zs

set_option maxHeartbeats 1600000 in
theorem placed_any (B n l : Nat) (hl : l < 18446744073709551616) (p : Int) (hp0 : -9223372036854775808 ≤ p) (h1 : p ≤ 9223372036854775807) (f : Nat) (hf : f ≤ 1) (a : Option Addr) (cap : Nat) (zs : List Int) (hzl : zs.length ≤ 1024) (sv : Value) (xs : List Value) (w : World) (hv : Vec B w a zs) (hown : w.ownsRow B 5 1 sv n xs) (hBw : B ≤ w.heap.size) (hlim : n + 50000 ≤ 140737488355328) :
    Calls Yba.prog 11 #[sv, .int .i64 p, .int .u64 1, .int .u64 f, .agg #[.int .u64 l, .slice a zs.length cap]] w fun e w' => ∃ v', e = .returned (.tuple #[v', .nilIface]) ∧ w'.ownsRow B 5 1 v' (n + (plBytes p f l zs).length) (xs ++ Lib.byteCells (plBytes p f l zs)) ∧ Fr B w w' := by
  have hll := Lib.uvarint_length64 (plc_lt p f h1 hf)
  have hfr0 := (Fr.refl B w).alloc hBw (Obj.cells #[Value.int IntKind.u64 l, Value.slice a zs.length cap] 27)
  have hown0 := hown.alloc (Obj.cells #[Value.int IntKind.u64 l, Value.slice a zs.length cap] 27)
  have hsz0 : B ≤ (w.alloc (Obj.cells #[Value.int IntKind.u64 l, Value.slice a zs.length cap] 27)).heap.size := Nat.le_trans hBw hfr0.1.size
  have HP : Hid (∀ (wx : World), wx.heap = (w.alloc (Obj.cells #[Value.int IntKind.u64 l, Value.slice a zs.length cap] 27)).heap → wx.os = w.os → wx.tape = w.tape → wx.output = w.output →
      Calls Yba.prog 13 #[sv, .int .i64 p, .int .u64 1, .int .u64 f] wx fun e w' => ∃ v', e = .returned v' ∧ w'.ownsRow B 5 1 v' (n + (Lib.uvarint (plc p f)).length) (xs ++ Lib.byteCells (Lib.uvarint (plc p f))) ∧ Fr B w w' ∧
        w'.cell? ⟨w.heap.size, 0, none⟩ = some (.int .u64 l) ∧ w'.cell? ⟨w.heap.size, 1, none⟩ = some (.slice a zs.length cap)) := by
    intro wx hh ho ht hp
    have hfrx : Fr B w wx := ⟨⟨ho, ht, hp, by rw [hh]; exact hfr0.1.size, fun k hk => by rw [hh]; exact hfr0.1.block k hk⟩, fun k o h1 h2 h3 => by rw [hh]; exact hfr0.2 k o h1 h2 h3⟩
    have hox : wx.ownsRow B 5 1 sv n xs := by unfold World.ownsRow; rw [hh]; exact hown0
    refine (place_any B n p hp0 h1 f hf sv xs wx hox (by rw [hh]; exact hsz0) (by omega)).mono ?_
    rintro e w1 ⟨v1, rfl, ho1, hb1⟩
    have hk : Lib.OthersKept 5 none (w.alloc (Obj.cells #[Value.int IntKind.u64 l, Value.slice a zs.length cap] 27)) w1 := fun k o h1 h2 h3 => hb1.2 k o (by rw [hh]; exact h1) h2 h3
    exact ⟨v1, rfl, ho1, hfrx.trans hb1, box_cell (by decide) hk 0 _ rfl, box_cell (by decide) hk 1 _ rfl⟩
  clear hfr0 hown0 hsz0
  go_enter Yba.func11, Yba.ntmps11
  go_wp2_with fail
  go_region_with (first
    | (go_at_call 13; refine (HP.out _ (by rfl) (by rfl) (by rfl) (by rfl)).mono ?_; rintro e w1 ⟨v1, rfl, ho1, hb1, hc0, hc1⟩)
    | (go_at_call 12; refine (ts_any B _ l hl a cap zs hzl _ _ _ (by exact hv.fr hb1.1) (by exact ho1) (by exact Nat.le_trans hBw hb1.1.size) (by omega)).mono ?_; rintro e w2 ⟨v2, rfl, ho2, hb2⟩))
  all_goals
    go_wp2
    go_ret2
    refine ⟨v2, rfl, ?_, hb1.trans hb2⟩
    rw [plBytes, Lib.byteCells_append, List.length_append, ← Nat.add_assoc, ← List.append_assoc]
    exact ho2

end Go.Proofs.Ybulktza.lawS1014AExact
