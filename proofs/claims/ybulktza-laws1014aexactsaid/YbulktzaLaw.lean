import Derived.Test.YbulktzaRecord
import Derived.Test.YbulktzaEq
namespace Go.Proofs.Ybulktza.lawS1014AExact
open Go.RowKit

set_option maxHeartbeats 1600000 in
theorem walk_long (a0 : Option Addr) (len0 cap0 : Nat) (a1 a2 a3 : Int) (a4 : Bool) (a5 : Int) (a6 : Option Addr) (len6 cap6 : Nat) (w : World) (h0 : len0 ≤ maxLen) (h6 : len6 ≤ maxLen) (h : 1024 < len0 ∨ 1024 < len6) :
    Calls Yba.prog 3 #[.slice a0 len0 cap0, .int .u64 a1, .int .i64 a2, .int .i64 a3, .bool a4, .int .u64 a5, .slice a6 len6 cap6] w fun e w' => e = .returned (.bool true) ∧ Below w.heap.size w w' := by
  unfold maxLen at h0 h6
  by_cases hl : 1024 < len0
  · go_enter Yba.func3, Yba.ntmps3
    go_wp2
    go_ret
    exact ⟨rfl, Below.refl _ _⟩
  · have hl6 : 1024 < len6 := by omega
    clear h
    go_enter Yba.func3, Yba.ntmps3
    go_wp2
    go_ret
    exact ⟨rfl, Below.refl _ _⟩

theorem Row.fr {k : IntKind} {w w' : World} {a : Option Addr} {len cap : Nat} {zs : List Int} (h : Row k w a len cap zs) (hb : Below w.heap.size w w') : Row k w' a len cap zs := by
  refine ⟨h.1, h.2.1, fun x hx i hi => ?_⟩
  have hc := h.2.2 x hx i hi
  rw [hb.cell (World.block_lt_of_cell? w _ hc)]
  exact hc

theorem zig_law (c : Int) (h0 : -9223372036854775808 ≤ c) (h1 : c ≤ 9223372036854775807) :
    bits BinOp.xor IntKind.u64 (IntKind.u64.wrap (IntKind.u64.wrap c * 2)) (IntKind.u64.wrap (c / 9223372036854775808)) = ((Lib.zigzag c : Nat) : Int) := by
  by_cases hn : c < 0
  · have e1 : IntKind.u64.wrap (IntKind.u64.wrap c * 2) = (((2 * c + 18446744073709551616).toNat : Nat) : Int) := by
      rw [IntKind.wrap_u64, IntKind.wrap_u64]
      omega
    have e2 : IntKind.u64.wrap (c / 9223372036854775808) = ((2 ^ 64 - 1 : Nat) : Int) := by
      rw [IntKind.wrap_u64]
      omega
    rw [e1, e2, bits_xor_u64_nat _ _ (by omega) (by decide), Nat.xor_comm, Lib.xor_ones64 _ (by omega)]
    unfold Lib.zigzag
    rw [if_neg (by omega)]
    omega
  · have e1 : IntKind.u64.wrap (IntKind.u64.wrap c * 2) = (((2 * c).toNat : Nat) : Int) := by
      rw [IntKind.wrap_u64, IntKind.wrap_u64]
      omega
    have e2 : IntKind.u64.wrap (c / 9223372036854775808) = ((0 : Nat) : Int) := by
      rw [IntKind.wrap_u64]
      omega
    rw [e1, e2, bits_xor_u64_nat _ _ (by omega) (by decide), Nat.xor_zero]
    unfold Lib.zigzag
    rw [if_pos (by omega)]

theorem plc_pf (p : Int) (h : 0 ≤ p) : ((plc p (Bool.toNat false) : Nat) : Int) = p * 2 := by
  unfold plc; rw [if_pos h, Bool.toNat_false]; omega
theorem plc_pt (p : Int) (h : 0 ≤ p) (h1 : p ≤ 9223372036854775807) : ((plc p (Bool.toNat true) : Nat) : Int) = bits BinOp.or IntKind.u64 (p * 2) 1 := by
  rw [or_low p h (by omega) 1 (by omega) (by omega)]
  unfold plc; rw [if_pos h, Bool.toNat_true]; omega
theorem plc_nf (p : Int) (h : ¬ 0 ≤ p) : ((plc p (Bool.toNat false) : Nat) : Int) = 18446744073709551614 := by
  unfold plc; rw [if_neg h, Bool.toNat_false]; omega
theorem plc_nt (p : Int) (h : ¬ 0 ≤ p) : ((plc p (Bool.toNat true) : Nat) : Int) = bits BinOp.or IntKind.u64 18446744073709551614 1 := by
  have := or_low 9223372036854775807 (by omega) (by omega) 1 (by omega) (by omega)
  rw [show (9223372036854775807 : Int) * 2 = 18446744073709551614 from rfl] at this
  rw [this]
  unfold plc; rw [if_neg h, Bool.toNat_true]; omega

theorem byteCells_map (l : List UInt8) : Lib.byteCells l = (l.map fun b => (b.toNat : Int)).map (Value.int .u8) := by simp [Lib.byteCells]

theorem own_pre {w : World} {B n : Nat} {v : Value} {z0 : List Int} {l : List UInt8} (h : w.ownsRow B 5 1 v n (z0.map (Value.int .u8) ++ Lib.byteCells l)) :
    w.ownsRow B 5 1 v n ((z0 ++ l.map fun b => (b.toNat : Int)).map (Value.int .u8)) := by
  rw [List.map_append, ← byteCells_map]; exact h

theorem want_list (z0 : List Int) (s : Nat) (c p : Int) (f l : Nat) (zs : List Int) :
    z0.map (Value.int .u8) ++ Lib.byteCells (Lib.uvarint s) ++ Lib.byteCells (Lib.uvarint (Lib.zigzag c)) ++ Lib.byteCells (Lib.uvarint (plc p f)) ++ Lib.byteCells (Lib.uvarint l) ++ Lib.byteCells (Lib.uvarint zs.length) ++ Lib.byteCells (vars zs)
      = z0.map (Value.int .u8) ++ Lib.byteCells (recBytes s c p f l zs) := by
  simp [recBytes, plBytes, tsBytes, Lib.byteCells_append]

theorem recBytes_len (s : Nat) (hs : s < 18446744073709551616) (c : Int) (hc0 : -9223372036854775808 ≤ c) (hc1 : c ≤ 9223372036854775807) (p : Int) (h1 : p ≤ 9223372036854775807) {f : Nat} (hf : f ≤ 1) (l : Nat) (hl : l < 18446744073709551616) (zs : List Int) (hzl : zs.length ≤ 1024) (hz : ∀ z ∈ zs, 0 ≤ z ∧ z < 18446744073709551616) :
    (recBytes s c p f l zs).length ≤ 20000 := by
  have e1 := Lib.uvarint_length64 hs
  have e2 := Lib.uvarint_length64 (Lib.zigzag_lt hc0 hc1)
  have e3 := Lib.uvarint_length64 (plc_lt p f h1 hf)
  have e4 := tsBytes_len l hl zs hzl hz
  simp only [recBytes, plBytes, List.length_append]
  omega

theorem eq_own {w2 wr : World} {B B' n m : Nat} {vg vw : Value} {zs : List Int} (hg : w2.ownsRow B 5 1 vg n (zs.map (Value.int .u8))) (hw : wr.ownsRow B' 5 1 vw m (zs.map (Value.int .u8))) (hb : Below w2.heap.size w2 wr) (hlim : zs.length ≤ 140737488355328) :
    Calls Yba.prog 7 #[vg, vw] wr fun e w' => e = .returned (.bool true) ∧ ∃ k, w' = wr.drewN k := by
  obtain ⟨hgl, ag, cg, rfl, hgc⟩ := own_cells hg
  obtain ⟨hwl, aw, cw, rfl, hwc⟩ := own_cells hw
  subst hgl
  subst hwl
  refine eq_any zs.length cg cw ag aw zs rfl hlim wr (fun i hi => ?_) hwc
  obtain ⟨x, rfl, hx⟩ := hgc i hi
  exact ⟨x, rfl, (hb.cell (World.block_lt_of_cell? w2 _ hx)).trans hx⟩

set_option maxHeartbeats 1600000 in
theorem walk_short (a0 : Option Addr) (len0 cap0 : Nat) (z0 : List Int) (a1 : Nat) (a2 a3 : Int) (a4 : Bool) (a5 : Nat) (a6 : Option Addr) (cap6 : Nat) (z6 : List Int) (w : World) (h0 : len0 ≤ 1024) (h6 : z6.length ≤ 1024)
    (r0 : Row .u8 w a0 len0 cap0 z0) (r6 : Vec w.heap.size w a6 z6) (b1 : a1 < 18446744073709551616) (b20 : -9223372036854775808 ≤ a2) (b21 : a2 ≤ 9223372036854775807) (b30 : -9223372036854775808 ≤ a3) (b31 : a3 ≤ 9223372036854775807) (b5 : a5 < 18446744073709551616) :
    Calls Yba.prog 3 #[.slice a0 len0 cap0, .int .u64 a1, .int .i64 a2, .int .i64 a3, .bool a4, .int .u64 a5, .slice a6 z6.length cap6] w fun e w' => e = .returned (.bool true) ∧ Below w.heap.size w w' := by
  go_enter Yba.func3, Yba.ntmps3
  go_wp2_with (at_builtin; refine wpList_append_pre rfl _ _ rfl w.heap.size (by exact Nat.le_refl _) a0 len0 cap0 z0 r0 h0 rfl rfl ?_; intro vb w1 hown1 hg1)
  have hfr1 : Below w.heap.size w w1 := (Below.refl _ _).grown hg1 (Nat.le_refl _) (fun k hk => by cases hk)
  obtain ⟨O, hO⟩ : ∃ O : Obj, O = Obj.cells #[Value.int IntKind.u64 a1, Value.int IntKind.i64 a2, Value.int IntKind.i64 a3, Value.bool a4, Value.int IntKind.u64 a5, Value.slice a6 z6.length cap6] 29 := ⟨_, rfl⟩
  have hfr1a : Below w.heap.size w (w1.alloc O) := hfr1.alloc hfr1.size O
  have hR := record_any w.heap.size len0 a1 a5 b1 b5 a2 b20 b21 a3 b30 b31 a4 a6 cap6 z6 h6 vb (z0.map (Value.int .u8)) (w1.alloc O) (r6.fr hfr1a) (hown1.alloc _) hfr1a.size (by omega)
  subst hO
  refine hR.mono ?_
  rintro e w2 ⟨vg, rfl, hog, hbg⟩
  have hfr2 : Below w.heap.size w w2 := hfr1a.trans hbg.1
  clear hR hown1 hg1
  have r0' := r0.fr hfr2
  have r6' := r6.fr hfr2
  go_wp2_with (at_builtin; refine wpList_append_pre rfl _ _ rfl w2.heap.size (by exact Nat.le_refl _) a0 len0 cap0 z0 r0' h0 rfl rfl ?_; intro vw w3 hown3 hg3)
  have hfr3 : Below w2.heap.size w2 w3 := (Below.refl _ _).grown hg3 (Nat.le_refl _) (fun k hk => by cases hk)
  clear hg3
  have hl1 := Lib.uvarint_length64 b1
  have hl5 := Lib.uvarint_length64 b5
  have hP1 := put_any w2.heap.size len0 a1 b1 vw _ w3 hown3 hfr3.size (by omega)
  refine hP1.mono ?_
  rintro e w4 ⟨v4, rfl, ho4, hb4⟩
  clear hP1
  go_wp2_with fail
  have hlz := Lib.uvarint_length64 (Lib.zigzag_lt b30 b31)
  have hP2 := put_any w2.heap.size _ (Lib.zigzag a3) (Lib.zigzag_lt b30 b31) v4 _ w4 ho4 (Nat.le_trans hfr3.size hb4.1.size) (by omega)
  rw [← zig_law a3 b30 b31] at hP2
  refine hP2.mono ?_
  rintro e w5 ⟨v5, rfl, ho5, hb5⟩
  clear hP2
  have hb35 := hb4.trans hb5
  obtain ⟨F, hF⟩ : ∃ F, F = plc a2 a4.toNat := ⟨_, rfl⟩
  have HF : Hid (F = plc a2 a4.toNat) := hF
  have bF : F < 18446744073709551616 := by rw [hF]; exact plc_lt a2 _ b21 (Bool.toNat_le _)
  have hlp := Lib.uvarint_length64 bF
  have hP3 := put_any w2.heap.size _ F bF v5 _ w5 ho5 (Nat.le_trans hfr3.size hb35.1.size) (by omega)
  clear hF
  have hB : Below w2.heap.size w2 w5 := hfr3.trans hb35.1
  have hBw : w.heap.size ≤ w2.heap.size := hfr2.size
  have hz0l : z0.length = len0 := r0.1
  have hrl := recBytes_len a1 b1 a3 b30 b31 a2 b21 (Bool.toNat_le a4) a5 b5 z6 h6 r6.2
  clear r0 r6 r0' hown3 ho4 hb4 hb5 hb35 ho5 hfr1 hfr1a hfr3 hbg
  by_cases hp : 0 ≤ a2 <;> cases a4
  · rw [HF.out, plc_pf a2 hp, ← HF.out] at hP3
    go_wp2_with fail
    refine hP3.mono ?_
    clear hP3
    rintro e w6 ⟨v6, rfl, ho6, hb6⟩
    have hB6 := hB.trans hb6.1
    have hP4 := put_any w2.heap.size _ a5 b5 v6 _ w6 ho6 hB6.size (by omega)
    go_wp2_with fail
    refine hP4.mono ?_
    clear hP4
    rintro e w7 ⟨v7, rfl, ho7, hb7⟩
    have hB7 := hB6.trans hb7.1
    have hll := Lib.uvarint_length64 (x := z6.length) (by omega)
    have hP5 := put_any w2.heap.size _ z6.length (by omega) v7 _ w7 ho7 hB7.size (by omega)
    go_wp2_with fail
    refine hP5.mono ?_
    clear hP5
    rintro e w8 ⟨v8, rfl, ho8, hb8⟩
    have hB8 := hB7.trans hb8.1
    clear ho6 ho7 hb6 hb7 hb8 hB6 hB7 hB
    go_wp2_with fail
    go_loopw [19, 23] (fun vb vi wr => ∃ k : Nat, k ≤ z6.length ∧ vi = .int .i64 k ∧ wr.ownsRow w2.heap.size 5 1 vb (len0 + (Lib.uvarint a1).length + (Lib.uvarint (Lib.zigzag a3)).length + (Lib.uvarint F).length + (Lib.uvarint a5).length + (Lib.uvarint z6.length).length + (vars (z6.take k)).length)
        (z0.map (Value.int .u8) ++ Lib.byteCells (Lib.uvarint a1) ++ Lib.byteCells (Lib.uvarint (Lib.zigzag a3)) ++ Lib.byteCells (Lib.uvarint F) ++ Lib.byteCells (Lib.uvarint a5) ++ Lib.byteCells (Lib.uvarint z6.length) ++ Lib.byteCells (vars (z6.take k))) ∧ Below w2.heap.size w2 wr)
      (fun _ vi _ => z6.length - (intOf vi).toNat)
    case atStart => exact ⟨0, Nat.zero_le _, rfl, by simpa [vars, Lib.byteCells] using ho8, hB8⟩
    case round =>
      obtain ⟨k, hk, rfl, hown1, hnx⟩ := hrel
      have hvl := vars_len (z6.take k) (fun z hz => r6'.2 z (List.mem_of_mem_take hz))
      have htl : (z6.take k).length ≤ k := List.length_take_le _ _
      by_cases hlt : k < z6.length
      · obtain ⟨x, rfl, hxb, hc⟩ := (r6'.fr (hnx.mono hBw)).1 k hlt
        obtain ⟨z, hz⟩ : ∃ z, z = z6.getD k 0 := ⟨_, rfl⟩
        rw [← hz] at hc
        have hzm : z ∈ z6 := by rw [hz]; simp [hlt]
        obtain ⟨hz0, hz1⟩ := r6'.2 z hzm
        have hU := put_any w2.heap.size _ z.toNat (by omega) u19 _ wr hown1 hnx.size (by omega)
        rw [Int.toNat_of_nonneg hz0] at hU
        have HZ : Hid (z6.take (k + 1) = z6.take k ++ [z]) := by
          show _ = _
          rw [List.take_succ_eq_append_getElem hlt, hz]; simp [hlt]
        clear hz hzm ho8 hog r6'
        go_wp2_with (go_at_call 6; refine hU.mono ?_; rintro e w9 ⟨v9, rfl, ho9, hb9⟩)
        go_roundw
        case rel =>
          refine ⟨k + 1, by omega, by go_num, ?_, hnx.trans hb9.1⟩
          rw [HZ.out, vars_snoc, Lib.byteCells_append, List.length_append, ← Nat.add_assoc, ← List.append_assoc]
          exact ho9
        case measure => simp [intOf]; omega
      · obtain rfl : k = z6.length := by omega
        rw [List.take_length] at hown1
        rw [HF.out, want_list] at hown1
        have hE := eq_own (own_pre hog) (own_pre hown1) hnx (by simp only [List.length_append, List.length_map, hz0l]; omega)
        clear hog hown1 hvl htl ho8 r6'
        go_wp2_with fail
        refine hE.mono ?_
        rintro e w10 ⟨rfl, q, rfl⟩
        go_wp2
        go_ret
        exact ⟨rfl, below_drewN (hfr2.trans (hnx.mono hBw)) q⟩
  · rw [HF.out, plc_pt a2 hp b21, ← HF.out] at hP3
    go_wp2_with fail
    refine hP3.mono ?_
    clear hP3
    rintro e w6 ⟨v6, rfl, ho6, hb6⟩
    have hB6 := hB.trans hb6.1
    have hP4 := put_any w2.heap.size _ a5 b5 v6 _ w6 ho6 hB6.size (by omega)
    go_wp2_with fail
    refine hP4.mono ?_
    clear hP4
    rintro e w7 ⟨v7, rfl, ho7, hb7⟩
    have hB7 := hB6.trans hb7.1
    have hll := Lib.uvarint_length64 (x := z6.length) (by omega)
    have hP5 := put_any w2.heap.size _ z6.length (by omega) v7 _ w7 ho7 hB7.size (by omega)
    go_wp2_with fail
    refine hP5.mono ?_
    clear hP5
    rintro e w8 ⟨v8, rfl, ho8, hb8⟩
    have hB8 := hB7.trans hb8.1
    clear ho6 ho7 hb6 hb7 hb8 hB6 hB7 hB
    go_wp2_with fail
    go_loopw [19, 23] (fun vb vi wr => ∃ k : Nat, k ≤ z6.length ∧ vi = .int .i64 k ∧ wr.ownsRow w2.heap.size 5 1 vb (len0 + (Lib.uvarint a1).length + (Lib.uvarint (Lib.zigzag a3)).length + (Lib.uvarint F).length + (Lib.uvarint a5).length + (Lib.uvarint z6.length).length + (vars (z6.take k)).length)
        (z0.map (Value.int .u8) ++ Lib.byteCells (Lib.uvarint a1) ++ Lib.byteCells (Lib.uvarint (Lib.zigzag a3)) ++ Lib.byteCells (Lib.uvarint F) ++ Lib.byteCells (Lib.uvarint a5) ++ Lib.byteCells (Lib.uvarint z6.length) ++ Lib.byteCells (vars (z6.take k))) ∧ Below w2.heap.size w2 wr)
      (fun _ vi _ => z6.length - (intOf vi).toNat)
    case atStart => exact ⟨0, Nat.zero_le _, rfl, by simpa [vars, Lib.byteCells] using ho8, hB8⟩
    case round =>
      obtain ⟨k, hk, rfl, hown1, hnx⟩ := hrel
      have hvl := vars_len (z6.take k) (fun z hz => r6'.2 z (List.mem_of_mem_take hz))
      have htl : (z6.take k).length ≤ k := List.length_take_le _ _
      by_cases hlt : k < z6.length
      · obtain ⟨x, rfl, hxb, hc⟩ := (r6'.fr (hnx.mono hBw)).1 k hlt
        obtain ⟨z, hz⟩ : ∃ z, z = z6.getD k 0 := ⟨_, rfl⟩
        rw [← hz] at hc
        have hzm : z ∈ z6 := by rw [hz]; simp [hlt]
        obtain ⟨hz0, hz1⟩ := r6'.2 z hzm
        have hU := put_any w2.heap.size _ z.toNat (by omega) u19 _ wr hown1 hnx.size (by omega)
        rw [Int.toNat_of_nonneg hz0] at hU
        have HZ : Hid (z6.take (k + 1) = z6.take k ++ [z]) := by
          show _ = _
          rw [List.take_succ_eq_append_getElem hlt, hz]; simp [hlt]
        clear hz hzm ho8 hog r6'
        go_wp2_with (go_at_call 6; refine hU.mono ?_; rintro e w9 ⟨v9, rfl, ho9, hb9⟩)
        go_roundw
        case rel =>
          refine ⟨k + 1, by omega, by go_num, ?_, hnx.trans hb9.1⟩
          rw [HZ.out, vars_snoc, Lib.byteCells_append, List.length_append, ← Nat.add_assoc, ← List.append_assoc]
          exact ho9
        case measure => simp [intOf]; omega
      · obtain rfl : k = z6.length := by omega
        rw [List.take_length] at hown1
        rw [HF.out, want_list] at hown1
        have hE := eq_own (own_pre hog) (own_pre hown1) hnx (by simp only [List.length_append, List.length_map, hz0l]; omega)
        clear hog hown1 hvl htl ho8 r6'
        go_wp2_with fail
        refine hE.mono ?_
        rintro e w10 ⟨rfl, q, rfl⟩
        go_wp2
        go_ret
        exact ⟨rfl, below_drewN (hfr2.trans (hnx.mono hBw)) q⟩
  · rw [HF.out, plc_nf a2 hp, ← HF.out] at hP3
    go_wp2_with fail
    refine hP3.mono ?_
    clear hP3
    rintro e w6 ⟨v6, rfl, ho6, hb6⟩
    have hB6 := hB.trans hb6.1
    have hP4 := put_any w2.heap.size _ a5 b5 v6 _ w6 ho6 hB6.size (by omega)
    go_wp2_with fail
    refine hP4.mono ?_
    clear hP4
    rintro e w7 ⟨v7, rfl, ho7, hb7⟩
    have hB7 := hB6.trans hb7.1
    have hll := Lib.uvarint_length64 (x := z6.length) (by omega)
    have hP5 := put_any w2.heap.size _ z6.length (by omega) v7 _ w7 ho7 hB7.size (by omega)
    go_wp2_with fail
    refine hP5.mono ?_
    clear hP5
    rintro e w8 ⟨v8, rfl, ho8, hb8⟩
    have hB8 := hB7.trans hb8.1
    clear ho6 ho7 hb6 hb7 hb8 hB6 hB7 hB
    go_wp2_with fail
    go_loopw [19, 23] (fun vb vi wr => ∃ k : Nat, k ≤ z6.length ∧ vi = .int .i64 k ∧ wr.ownsRow w2.heap.size 5 1 vb (len0 + (Lib.uvarint a1).length + (Lib.uvarint (Lib.zigzag a3)).length + (Lib.uvarint F).length + (Lib.uvarint a5).length + (Lib.uvarint z6.length).length + (vars (z6.take k)).length)
        (z0.map (Value.int .u8) ++ Lib.byteCells (Lib.uvarint a1) ++ Lib.byteCells (Lib.uvarint (Lib.zigzag a3)) ++ Lib.byteCells (Lib.uvarint F) ++ Lib.byteCells (Lib.uvarint a5) ++ Lib.byteCells (Lib.uvarint z6.length) ++ Lib.byteCells (vars (z6.take k))) ∧ Below w2.heap.size w2 wr)
      (fun _ vi _ => z6.length - (intOf vi).toNat)
    case atStart => exact ⟨0, Nat.zero_le _, rfl, by simpa [vars, Lib.byteCells] using ho8, hB8⟩
    case round =>
      obtain ⟨k, hk, rfl, hown1, hnx⟩ := hrel
      have hvl := vars_len (z6.take k) (fun z hz => r6'.2 z (List.mem_of_mem_take hz))
      have htl : (z6.take k).length ≤ k := List.length_take_le _ _
      by_cases hlt : k < z6.length
      · obtain ⟨x, rfl, hxb, hc⟩ := (r6'.fr (hnx.mono hBw)).1 k hlt
        obtain ⟨z, hz⟩ : ∃ z, z = z6.getD k 0 := ⟨_, rfl⟩
        rw [← hz] at hc
        have hzm : z ∈ z6 := by rw [hz]; simp [hlt]
        obtain ⟨hz0, hz1⟩ := r6'.2 z hzm
        have hU := put_any w2.heap.size _ z.toNat (by omega) u19 _ wr hown1 hnx.size (by omega)
        rw [Int.toNat_of_nonneg hz0] at hU
        have HZ : Hid (z6.take (k + 1) = z6.take k ++ [z]) := by
          show _ = _
          rw [List.take_succ_eq_append_getElem hlt, hz]; simp [hlt]
        clear hz hzm ho8 hog r6'
        go_wp2_with (go_at_call 6; refine hU.mono ?_; rintro e w9 ⟨v9, rfl, ho9, hb9⟩)
        go_roundw
        case rel =>
          refine ⟨k + 1, by omega, by go_num, ?_, hnx.trans hb9.1⟩
          rw [HZ.out, vars_snoc, Lib.byteCells_append, List.length_append, ← Nat.add_assoc, ← List.append_assoc]
          exact ho9
        case measure => simp [intOf]; omega
      · obtain rfl : k = z6.length := by omega
        rw [List.take_length] at hown1
        rw [HF.out, want_list] at hown1
        have hE := eq_own (own_pre hog) (own_pre hown1) hnx (by simp only [List.length_append, List.length_map, hz0l]; omega)
        clear hog hown1 hvl htl ho8 r6'
        go_wp2_with fail
        refine hE.mono ?_
        rintro e w10 ⟨rfl, q, rfl⟩
        go_wp2
        go_ret
        exact ⟨rfl, below_drewN (hfr2.trans (hnx.mono hBw)) q⟩
  · rw [HF.out, plc_nt a2 hp, ← HF.out] at hP3
    go_wp2_with fail
    refine hP3.mono ?_
    clear hP3
    rintro e w6 ⟨v6, rfl, ho6, hb6⟩
    have hB6 := hB.trans hb6.1
    have hP4 := put_any w2.heap.size _ a5 b5 v6 _ w6 ho6 hB6.size (by omega)
    go_wp2_with fail
    refine hP4.mono ?_
    clear hP4
    rintro e w7 ⟨v7, rfl, ho7, hb7⟩
    have hB7 := hB6.trans hb7.1
    have hll := Lib.uvarint_length64 (x := z6.length) (by omega)
    have hP5 := put_any w2.heap.size _ z6.length (by omega) v7 _ w7 ho7 hB7.size (by omega)
    go_wp2_with fail
    refine hP5.mono ?_
    clear hP5
    rintro e w8 ⟨v8, rfl, ho8, hb8⟩
    have hB8 := hB7.trans hb8.1
    clear ho6 ho7 hb6 hb7 hb8 hB6 hB7 hB
    go_wp2_with fail
    go_loopw [19, 23] (fun vb vi wr => ∃ k : Nat, k ≤ z6.length ∧ vi = .int .i64 k ∧ wr.ownsRow w2.heap.size 5 1 vb (len0 + (Lib.uvarint a1).length + (Lib.uvarint (Lib.zigzag a3)).length + (Lib.uvarint F).length + (Lib.uvarint a5).length + (Lib.uvarint z6.length).length + (vars (z6.take k)).length)
        (z0.map (Value.int .u8) ++ Lib.byteCells (Lib.uvarint a1) ++ Lib.byteCells (Lib.uvarint (Lib.zigzag a3)) ++ Lib.byteCells (Lib.uvarint F) ++ Lib.byteCells (Lib.uvarint a5) ++ Lib.byteCells (Lib.uvarint z6.length) ++ Lib.byteCells (vars (z6.take k))) ∧ Below w2.heap.size w2 wr)
      (fun _ vi _ => z6.length - (intOf vi).toNat)
    case atStart => exact ⟨0, Nat.zero_le _, rfl, by simpa [vars, Lib.byteCells] using ho8, hB8⟩
    case round =>
      obtain ⟨k, hk, rfl, hown1, hnx⟩ := hrel
      have hvl := vars_len (z6.take k) (fun z hz => r6'.2 z (List.mem_of_mem_take hz))
      have htl : (z6.take k).length ≤ k := List.length_take_le _ _
      by_cases hlt : k < z6.length
      · obtain ⟨x, rfl, hxb, hc⟩ := (r6'.fr (hnx.mono hBw)).1 k hlt
        obtain ⟨z, hz⟩ : ∃ z, z = z6.getD k 0 := ⟨_, rfl⟩
        rw [← hz] at hc
        have hzm : z ∈ z6 := by rw [hz]; simp [hlt]
        obtain ⟨hz0, hz1⟩ := r6'.2 z hzm
        have hU := put_any w2.heap.size _ z.toNat (by omega) u19 _ wr hown1 hnx.size (by omega)
        rw [Int.toNat_of_nonneg hz0] at hU
        have HZ : Hid (z6.take (k + 1) = z6.take k ++ [z]) := by
          show _ = _
          rw [List.take_succ_eq_append_getElem hlt, hz]; simp [hlt]
        clear hz hzm ho8 hog r6'
        go_wp2_with (go_at_call 6; refine hU.mono ?_; rintro e w9 ⟨v9, rfl, ho9, hb9⟩)
        go_roundw
        case rel =>
          refine ⟨k + 1, by omega, by go_num, ?_, hnx.trans hb9.1⟩
          rw [HZ.out, vars_snoc, Lib.byteCells_append, List.length_append, ← Nat.add_assoc, ← List.append_assoc]
          exact ho9
        case measure => simp [intOf]; omega
      · obtain rfl : k = z6.length := by omega
        rw [List.take_length] at hown1
        rw [HF.out, want_list] at hown1
        have hE := eq_own (own_pre hog) (own_pre hown1) hnx (by simp only [List.length_append, List.length_map, hz0l]; omega)
        clear hog hown1 hvl htl ho8 r6'
        go_wp2_with fail
        refine hE.mono ?_
        rintro e w10 ⟨rfl, q, rfl⟩
        go_wp2
        go_ret
        exact ⟨rfl, below_drewN (hfr2.trans (hnx.mono hBw)) q⟩

end Go.Proofs.Ybulktza.lawS1014AExact
