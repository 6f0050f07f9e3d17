import Derived.Test.YbulktzaFmtRead
import Derived.OwnWalk
import Derived.Below
import Derived.Laws.CopyOwn
import Derived.Lib.SliceRun
namespace Go.Proofs.YbulktzaFmt
open Go.RowKit
set_option linter.unusedVariables false

theorem info5 : (Ybaf.prog.info? 5).map (fun i => (i.zero, i.size, i.bytes)) = some (some (.int .u8 0), 1, 1) := by kernel_rfl

set_option maxHeartbeats 1600000 in
set_option maxRecDepth 100000 in
theorem uvar_any (B n x : Nat) (hx : x < 18446744073709551616) (sv : Value) (xs : List Value) (w : World) (hown : w.ownsRow B 5 1 sv n xs) (hBw : B ≤ w.heap.size) (hlim : n + 10 ≤ 140737488355328) :
    Calls Ybaf.prog 16 #[sv, .int .u64 x] w fun e w' => ∃ v', e = .returned v' ∧ w'.ownsRow B 5 1 v' (n + (Lib.uvarint x).length) (xs ++ Lib.byteCells (Lib.uvarint x)) ∧ Below B w w' := by
  obtain ⟨i0, hi, hz0, hz1, hz2⟩ := info_parts info5
  have hlen := Lib.uvarint_length64 hx
  go_enter Ybaf.func16, Ybaf.ntmps16
  go_wp2
  go_loopw [0, 1] (fun vb vx wr => ∃ (y : Nat) (pre : List UInt8), vx = .int .u64 y ∧ y ≤ x ∧ Lib.uvarint x = pre ++ Lib.uvarint y ∧ wr.ownsRow B 5 1 vb (n + pre.length) (xs ++ Lib.byteCells pre) ∧ Below B w wr)
    (fun _ vx _ => (intOf vx).toNat)
  case atStart => exact ⟨x, [], rfl, Nat.le_refl _, rfl, by simpa [Lib.byteCells] using hown, Below.refl _ _⟩
  case round =>
    obtain ⟨y, pre, rfl, hy, hsplit, hown1, hnx⟩ := hrel
    have hpl : pre.length + (Lib.uvarint y).length ≤ 10 := by
      have h2 := congrArg List.length hsplit
      rw [List.length_append] at h2
      omega
    have hyp := Lib.uvarint_pos y
    by_cases h128 : 128 ≤ y
    · have hor : bits .or .u8 ((y : Int) % 256) 128 = ((y % 128 + 128 : Nat) : Int) := by
        rw [Lib.u8_or128_any _ (by omega) (by omega)]
        omega
      go_wp2_with (at_builtin; refine wpList_append_own _ rfl _ _ 24 rfl B 5 i0 (.int .u8 0) 1 1 Ybaf.underlying24 hi hz0 hz1 hz2 rfl (by decide) _ _ _ rfl (hown1.alloc _) ⟨wr.heap.size, 0, none⟩ 1 1 [Value.int .u8 ((y % 128 + 128 : Nat) : Int)] rfl rfl ?c1 ?c2 ?c3 ?c4 ?c5 ?_)
      case c1 =>
        intro j u hj
        match j, hj with
        | 0, hj => simp at hj; subst hj; simp [Addr.add]
      case c2 => intro u hu; simp at hu; subst hu; rfl
      case c3 => unfold maxLen; omega
      case c4 => omega
      case c5 => have := hnx.size; simp; omega
      intro v' w1 hown' hgrow _
      have hnx1 : Below B w w1 := (hnx.alloc (by have := hnx.size; omega) _).grown hgrow (by have := hnx.size; simp; omega) (fun k hk => (hown1.lt k hk).1)
      go_wp2
      go_roundw
      case rel =>
        refine ⟨y / 128, pre ++ [(y % 128 + 128).toUInt8], by go_num, by omega, by rw [hsplit, Lib.uvarint_big h128]; simp, ?_, hnx1⟩
        have ec : ((y % 128 + 128 : Nat) : Int) = (y : Int) % 128 + 128 := by omega
        rw [Lib.byteCells_snoc pre (by omega), List.length_append, List.length_singleton, ← Nat.add_assoc, ec]
        exact hown'
      case measure => simp [intOf]; omega
    · have hsm : Lib.uvarint y = [y.toUInt8] := Lib.uvarint_small (by omega)
      go_wp2_with (at_builtin; refine wpList_append_own _ rfl _ _ 24 rfl B 5 i0 (.int .u8 0) 1 1 Ybaf.underlying24 hi hz0 hz1 hz2 rfl (by decide) _ _ _ rfl (hown1.alloc _) ⟨wr.heap.size, 0, none⟩ 1 1 [Value.int .u8 (y : Int)] rfl rfl ?c1 ?c2 ?c3 ?c4 ?c5 ?_)
      case c1 =>
        intro j u hj
        match j, hj with
        | 0, hj => simp at hj; subst hj; simp [Addr.add]
      case c2 => intro u hu; simp at hu; subst hu; rfl
      case c3 => unfold maxLen; omega
      case c4 => omega
      case c5 => have := hnx.size; simp; omega
      intro v' w1 hown' hgrow _
      have hnx1 : Below B w w1 := (hnx.alloc (by have := hnx.size; omega) _).grown hgrow (by have := hnx.size; simp; omega) (fun k hk => (hown1.lt k hk).1)
      go_wp2
      go_ret
      refine ⟨v', rfl, ?_, hnx1⟩
      rw [hsplit, hsm, Lib.byteCells_snoc pre (by omega), List.length_append, List.length_singleton, ← Nat.add_assoc]
      exact hown'

/-- A row of numbers that came in. -/
def Vec (B : Nat) (w : World) (a : Option Addr) (zs : List Nat) : Prop :=
  ∀ i, i < zs.length → ∃ x, a = some x ∧ x.block < B ∧ w.cell? (x.add i) = some (.int .u64 ((zs.getD i 0 : Nat) : Int))

theorem Vec.fr {B : Nat} {w w' : World} {a : Option Addr} {zs : List Nat} (h : Vec B w a zs) (hb : Below B w w') : Vec B w' a zs := by
  intro i hi
  obtain ⟨x, rfl, hx, hc⟩ := h i hi
  refine ⟨x, rfl, hx, ?_⟩
  rw [hb.cell (by unfold Addr.add; split <;> simpa using hx)]
  exact hc

set_option maxHeartbeats 1600000 in
set_option maxRecDepth 100000 in
theorem enc_any (x : Nat) (hx : x < 18446744073709551616) (a : Option Addr) (cap : Nat) (zs : List Nat) (hz : ∀ z ∈ zs, z < 18446744073709551616) (hzl : zs.length ≤ 1024) (w : World) (hv : Vec w.heap.size w a zs) :
    Calls Ybaf.prog 7 #[.int .u64 x, .slice a zs.length cap] w fun e w' => ∃ v', e = .returned v' ∧ w'.ownsRow w.heap.size 5 1 v' ((Lib.uvarint x).length + (Lib.uvarint zs.length).length + (vars zs).length) (Lib.byteCells (Lib.uvarint x ++ (Lib.uvarint zs.length ++ vars zs))) ∧ Below w.heap.size w w' := by
  have hlx := Lib.uvarint_length64 hx
  have hll := Lib.uvarint_length64 (x := zs.length) (by omega)
  have hU1 := uvar_any w.heap.size 0 x hx (.slice none 0 0) [] w (World.ownsRow_nil _ _ _ _) (Nat.le_refl _) (by omega)
  simp only [Nat.zero_add, List.nil_append] at hU1
  go_enter Ybaf.func7, Ybaf.ntmps7
  go_wp2_with fail
  refine hU1.mono ?_
  rintro e w1 ⟨v1, rfl, ho1, hb1⟩
  clear hU1
  have hU2 := uvar_any w.heap.size _ zs.length (by omega) v1 _ w1 ho1 hb1.size (by omega)
  go_wp2_with fail
  refine hU2.mono ?_
  rintro e w2 ⟨v2, rfl, ho2, hb2⟩
  clear hU2
  have hb12 := hb1.trans hb2
  clear hb1 hb2 ho1
  go_wp2_with fail
  go_loopw [5, 17] (fun vb vi wr => ∃ k : Nat, k ≤ zs.length ∧ vi = .int .i64 k ∧ wr.ownsRow w.heap.size 5 1 vb ((Lib.uvarint x).length + (Lib.uvarint zs.length).length + (vars (zs.take k)).length) (Lib.byteCells (Lib.uvarint x) ++ Lib.byteCells (Lib.uvarint zs.length) ++ Lib.byteCells (vars (zs.take k))) ∧ Below w.heap.size w wr)
    (fun _ vi _ => zs.length - (intOf vi).toNat)
  case atStart => exact ⟨0, Nat.zero_le _, rfl, by simpa [vars, Lib.byteCells] using ho2, hb12⟩
  case round =>
    obtain ⟨k, hk, rfl, hown1, hnx⟩ := hrel
    clear ho2 hb12
    have hvl := vars_len (zs.take k) (fun z hz' => hz z (List.mem_of_mem_take hz'))
    have htl : (zs.take k).length ≤ k := List.length_take_le _ _
    by_cases hlt : k < zs.length
    · obtain ⟨ad, rfl, hxb, hc⟩ := (hv.fr hnx) k hlt
      have hzk := hz zs[k] (by simp)
      have hsn := vars_take_succ zs k hlt
      obtain ⟨z, hzz⟩ : ∃ z, z = zs[k] := ⟨_, rfl⟩
      have hgd : zs.getD k 0 = z := by rw [hzz]; simp [hlt]
      rw [hgd] at hc
      rw [← hzz] at hzk hsn
      have HS := (show Hid _ from hsn)
      have hU := uvar_any w.heap.size _ z hzk u5 _ wr hown1 hnx.size (by omega)
      clear hzz hgd hsn
      go_wp2_with (go_at_call 16; refine hU.mono ?_; rintro e w1 ⟨v', rfl, ho, hb⟩)
      go_roundw
      case rel =>
        refine ⟨k + 1, by omega, by go_num, ?_, hnx.trans hb⟩
        rw [HS.out, Lib.byteCells_append, List.length_append, ← Nat.add_assoc, ← List.append_assoc]
        exact ho
      case measure => simp [intOf]; omega
    · go_wp2
      go_ret
      obtain rfl : k = zs.length := by omega
      rw [List.take_length] at hown1
      refine ⟨u5, rfl, ?_, hnx⟩
      rw [Lib.byteCells_append, Lib.byteCells_append, ← List.append_assoc]
      exact hown1

end Go.Proofs.YbulktzaFmt
