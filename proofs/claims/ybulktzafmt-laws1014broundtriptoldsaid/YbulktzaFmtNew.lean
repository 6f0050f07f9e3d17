import Derived.Test.YbulktzaFmtDec
namespace Go.Proofs.YbulktzaFmt
open Go.RowKit
set_option linter.unusedVariables false

set_option maxHeartbeats 3200000 in
set_option maxRecDepth 100000 in
/-- decodeInto where 'into' has no room: a new row. -/
theorem dec_new (g o M c : Nat) (zs : List Nat) (hz : ∀ z ∈ zs, z < 18446744073709551616) (hzl : zs.length ≤ 1024) (hz0 : 0 < zs.length) (hM : M = (vars zs).length) (hc : M ≤ c) (hcm : c ≤ maxLen) (ai : Option Addr) (li ci : Nat) (hci : ci < zs.length) (hli : li ≤ ci) (hai : ai = none → li = 0 ∧ ci = 0) (w : World) (hg : g < w.heap.size) (hl : Lies w g o (vars zs)) :
    Calls Ybaf.prog 18 #[.agg #[.int .i64 zs.length, .slice (some ⟨g, o, none⟩) M c], .slice ai li ci] w fun e w' => ∃ b, e = .returned (.slice (some ⟨b, 0, none⟩) zs.length zs.length) ∧ w.heap.size ≤ b ∧ Fill w' b zs.length zs.length zs ∧ w.grownBy w' none := by
  obtain ⟨i0, hi, hz0', hz1, hz2⟩ := info_parts info22
  have hvl := vars_len zs hz
  have HM := hid hM
  have hM2 : M ≤ 10240 := by omega
  have hl1 : Lies (w.alloc (Obj.cells #[Value.int IntKind.i64 zs.length, Value.slice (some ⟨g, o, none⟩) M c] 49)) g o (vars zs) := hl.same (Below.heap_alloc w _ g hg)
  have hbx := heap_alloc_new w (Obj.cells #[Value.int IntKind.i64 zs.length, Value.slice (some ⟨g, o, none⟩) M c] 49)
  have HL0 := hid hl1
  have HB0 := hid hbx
  have HG0 := hid (World.grownBy_alloc w (Obj.cells #[Value.int IntKind.i64 zs.length, Value.slice (some ⟨g, o, none⟩) M c] 49) none)
  have hlen0 : ((zs.length : Int) == 0) = false := beq_eq_false_iff_ne.2 (by omega)
  unfold maxLen at hcm
  clear hM hl hl1 hvl hbx
  cases ai with
  | none =>
    obtain ⟨rfl, rfl⟩ := hai rfl
    clear hai
    go_enter Ybaf.func18, Ybaf.ntmps18
    go_wp2_with (at_make; refine wpList_make_full _ rfl _ _ 23 rfl (w.heap.size + 1) 22 i0 (.int .u64 0) 1 Ybaf.underlying23 hi hz0' hz1 .i64 .i64 _ _ zs.length rfl rfl rfl rfl (by rw [hz2]; omega) (by unfold maxLen; omega) (by simp) ?_; intro w1 hown1 hg1; have hqB := (hg1.block w.heap.size (by simp) (by simp)).trans HB0.out; have hq0 := (blk_cells hqB 0 _ rfl).1)
    have HF : Hid (Fill w1 (w.heap.size + 1) zs.length 0 zs) := by
      rcases hown1.2 with ⟨h, _⟩ | ⟨g', cap, cur, h, _, hh, h3, _, h5, _⟩
      · simp at h
      · simp at h
        obtain ⟨⟨rfl⟩, rfl⟩ := h
        exact Fill.of_block hh (by omega) zs
    have HL : Hid (Lies w1 g o (vars zs)) := HL0.out.same (hg1.block g (by simp; omega) (by simp))
    have HB : Hid (w1.heap[w.heap.size]? = some (Obj.cells #[Value.int IntKind.i64 zs.length, Value.slice (some ⟨g, o, none⟩) M c] 49 (0, 0))) := hqB
    have HG : Hid (w.grownBy w1 none) := gb_trans HG0.out hg1
    have hgb : g ≠ w.heap.size + 1 := by omega
    clear hown1 hg1 hqB hq0 HL0 HB0 HG0 hi hz0' hz1 hz2
    go_loopw [6, 30] (fun vat vi wr => ∃ k E : Nat, k ≤ zs.length ∧ vi = .int .i64 k ∧ vat = .int .i64 E ∧ Hid (E = (vars (zs.take k)).length) ∧ Hid (Fill wr (w.heap.size + 1) zs.length k zs) ∧ Hid (Lies wr g o (vars zs)) ∧ Hid (wr.heap[w.heap.size]? = some (Obj.cells #[Value.int IntKind.i64 zs.length, Value.slice (some ⟨g, o, none⟩) M c] 49 (0, 0))) ∧ Hid (w.grownBy wr none))
      (fun _ vi _ => zs.length - (intOf vi).toNat)
    case atStart => exact ⟨0, 0, Nat.zero_le _, rfl, rfl, rfl, HF, HL, HB, HG⟩
    case round =>
      obtain ⟨k, E, hk, rfl, rfl, HE, HF1, HL1, HB1, HG1⟩ := hrel
      clear HF HL HB HG
      obtain ⟨hq1, _⟩ := blk_cells HB1.out 1 _ rfl
      by_cases hlt : k < zs.length
      · have hzk := hz zs[k] (by simp)
        have hlen := Lib.uvarint_length64 hzk
        have hpos := Lib.uvarint_pos zs[k]
        have hle := vars_take_le zs k hlt
        rw [← HE.out, ← HM.out] at hle
        have hlk : Lies wr g (o + E) (Lib.uvarint zs[k]) := by
          have h2 := HL1.out
          rw [vars_split zs k hlt] at h2
          rw [HE.out]
          exact h2.right.left
        have hts := vars_take_len zs k hlt
        rw [← HE.out] at hts
        have hzget : zs.getD k 0 = zs[k] := by simp [hlt]
        obtain ⟨z, hzz⟩ : ∃ z, z = zs[k] := ⟨_, rfl⟩
        rw [← hzz] at hzk hlen hpos hle hlk hts hzget
        obtain ⟨L, hL⟩ : ∃ L, L = (Lib.uvarint z).length := ⟨_, rfl⟩
        rw [← hL] at hlen hpos hle hts
        have HT : Hid ((vars (zs.take (k + 1))).length = E + L) := hts
        have HZ : Hid (zs.getD k 0 = z) := hzget
        have HLk := hid hlk
        have HLL := hid hL
        have HZ2 := hid hzk
        obtain ⟨⟨v0, hv0⟩, hfz⟩ := HF1.out.1 k hlt
        clear hts hL hlk hzk hzz hzget
        go_wp2
        go_loop [6, 8, 9] (fun vat vx vs => ∃ j : Nat, j < L ∧ vat = .int .i64 ((E + j : Nat) : Int) ∧ vx = .int .u64 ((z % 128 ^ j : Nat) : Int) ∧ vs = .int .u64 ((7 * j : Nat) : Int)) (fun vat _ _ => E + L - (intOf vat).toNat)
        case atStart => exact ⟨0, by omega, by simp, by simp [Nat.mod_one], rfl⟩
        case round =>
          obtain ⟨j, hj, rfl, rfl, rfl⟩ := hrel
          have hjL : j < (Lib.uvarint z).length := by rw [← HLL.out]; exact hj
          have hcj := HLk.out j hjL
          rw [Nat.add_assoc] at hcj
          have hgt := uv_get z j hjL
          rw [← HLL.out] at hgt
          generalize ((Lib.uvarint z)[j]).toNat = y at hcj hgt
          have hy : y < 256 := by
            by_cases hlast : j + 1 = L
            · have := hgt.2 hlast; omega
            · have := hgt.1 (by omega); omega
          have hmod : z % 128 ^ j < 128 ^ j := Nat.mod_lt _ (Nat.pow_pos (by decide))
          have hp := pow_lt j (by omega)
          generalize hacc : z % 128 ^ j = acc at hmod
          have HA : Hid (z % 128 ^ j = acc) := hacc
          clear hacc
          by_cases hlast : j + 1 = L
          · obtain ⟨h1, h2⟩ := hgt.2 hlast
            have hy1 : y < 128 := by omega
            have HO : Hid (bits .or .u64 (acc : Int) (IntKind.u64.wrap (IntKind.u64.wrap (bits .and .u8 (y : Int) 127) * 2 ^ (7 * j))) = (z : Int)) := by
              show _ = _
              rw [← HA.out]
              exact or_last_masked z j y HZ2.out (by omega) h2 hy1
            clear hgt h1 h2
            go_wp2
            go_roundw
            case rel =>
              rw [HO.out]
              refine ⟨k + 1, E + L, by omega, by go_num, by go_num, HT.out.symm, HF1.out.step hlt z HZ.out, HL1.out.same (Below.heap_setCell _ _ _ _ hgb), ?_, gb_setCell HG1.out _ (by show w.heap.size ≤ w.heap.size + 1; omega) _⟩
              show _ = _
              rw [Below.heap_setCell _ _ _ _ (by show w.heap.size ≠ w.heap.size + 1; omega)]
              exact HB1.out
            case measure => simp [intOf]; omega
          · obtain ⟨h0, h2⟩ := hgt.1 (by omega)
            have h1 : 128 ≤ y := by omega
            have hj9 : j < 9 := by omega
            have HO : Hid (bits .or .u64 (acc : Int) (IntKind.u64.wrap (IntKind.u64.wrap (bits .and .u8 (y : Int) 127) * 2 ^ (7 * j))) = ((z % 128 ^ (j + 1) : Nat) : Int)) := by
              show _ = _
              rw [← HA.out]; exact or_mid z j y hj9 h2
            clear hgt h0 h2
            go_wp2
            go_round
            case rel => exact ⟨j + 1, by omega, by go_num, by rw [HO.out], by go_num⟩
            case measure => simp [intOf]; omega
      · obtain rfl : k = zs.length := by omega
        go_wp2
        go_ret
        exact ⟨_, rfl, by omega, HF1.out, HG1.out⟩
  | some ad =>
    clear hai
    go_enter Ybaf.func18, Ybaf.ntmps18
    go_wp2_with (at_make; refine wpList_make_full _ rfl _ _ 23 rfl (w.heap.size + 1) 22 i0 (.int .u64 0) 1 Ybaf.underlying23 hi hz0' hz1 .i64 .i64 _ _ zs.length rfl rfl rfl rfl (by rw [hz2]; omega) (by unfold maxLen; omega) (by simp) ?_; intro w1 hown1 hg1; have hqB := (hg1.block w.heap.size (by simp) (by simp)).trans HB0.out; have hq0 := (blk_cells hqB 0 _ rfl).1)
    have HF : Hid (Fill w1 (w.heap.size + 1) zs.length 0 zs) := by
      rcases hown1.2 with ⟨h, _⟩ | ⟨g', cap, cur, h, _, hh, h3, _, h5, _⟩
      · simp at h
      · simp at h
        obtain ⟨⟨rfl⟩, rfl⟩ := h
        exact Fill.of_block hh (by omega) zs
    have HL : Hid (Lies w1 g o (vars zs)) := HL0.out.same (hg1.block g (by simp; omega) (by simp))
    have HB : Hid (w1.heap[w.heap.size]? = some (Obj.cells #[Value.int IntKind.i64 zs.length, Value.slice (some ⟨g, o, none⟩) M c] 49 (0, 0))) := hqB
    have HG : Hid (w.grownBy w1 none) := gb_trans HG0.out hg1
    have hgb : g ≠ w.heap.size + 1 := by omega
    clear hown1 hg1 hqB hq0 HL0 HB0 HG0 hi hz0' hz1 hz2
    go_loopw [6, 30] (fun vat vi wr => ∃ k E : Nat, k ≤ zs.length ∧ vi = .int .i64 k ∧ vat = .int .i64 E ∧ Hid (E = (vars (zs.take k)).length) ∧ Hid (Fill wr (w.heap.size + 1) zs.length k zs) ∧ Hid (Lies wr g o (vars zs)) ∧ Hid (wr.heap[w.heap.size]? = some (Obj.cells #[Value.int IntKind.i64 zs.length, Value.slice (some ⟨g, o, none⟩) M c] 49 (0, 0))) ∧ Hid (w.grownBy wr none))
      (fun _ vi _ => zs.length - (intOf vi).toNat)
    case atStart => exact ⟨0, 0, Nat.zero_le _, rfl, rfl, rfl, HF, HL, HB, HG⟩
    case round =>
      obtain ⟨k, E, hk, rfl, rfl, HE, HF1, HL1, HB1, HG1⟩ := hrel
      clear HF HL HB HG
      obtain ⟨hq1, _⟩ := blk_cells HB1.out 1 _ rfl
      by_cases hlt : k < zs.length
      · have hzk := hz zs[k] (by simp)
        have hlen := Lib.uvarint_length64 hzk
        have hpos := Lib.uvarint_pos zs[k]
        have hle := vars_take_le zs k hlt
        rw [← HE.out, ← HM.out] at hle
        have hlk : Lies wr g (o + E) (Lib.uvarint zs[k]) := by
          have h2 := HL1.out
          rw [vars_split zs k hlt] at h2
          rw [HE.out]
          exact h2.right.left
        have hts := vars_take_len zs k hlt
        rw [← HE.out] at hts
        have hzget : zs.getD k 0 = zs[k] := by simp [hlt]
        obtain ⟨z, hzz⟩ : ∃ z, z = zs[k] := ⟨_, rfl⟩
        rw [← hzz] at hzk hlen hpos hle hlk hts hzget
        obtain ⟨L, hL⟩ : ∃ L, L = (Lib.uvarint z).length := ⟨_, rfl⟩
        rw [← hL] at hlen hpos hle hts
        have HT : Hid ((vars (zs.take (k + 1))).length = E + L) := hts
        have HZ : Hid (zs.getD k 0 = z) := hzget
        have HLk := hid hlk
        have HLL := hid hL
        have HZ2 := hid hzk
        obtain ⟨⟨v0, hv0⟩, hfz⟩ := HF1.out.1 k hlt
        clear hts hL hlk hzk hzz hzget
        go_wp2
        go_loop [6, 8, 9] (fun vat vx vs => ∃ j : Nat, j < L ∧ vat = .int .i64 ((E + j : Nat) : Int) ∧ vx = .int .u64 ((z % 128 ^ j : Nat) : Int) ∧ vs = .int .u64 ((7 * j : Nat) : Int)) (fun vat _ _ => E + L - (intOf vat).toNat)
        case atStart => exact ⟨0, by omega, by simp, by simp [Nat.mod_one], rfl⟩
        case round =>
          obtain ⟨j, hj, rfl, rfl, rfl⟩ := hrel
          have hjL : j < (Lib.uvarint z).length := by rw [← HLL.out]; exact hj
          have hcj := HLk.out j hjL
          rw [Nat.add_assoc] at hcj
          have hgt := uv_get z j hjL
          rw [← HLL.out] at hgt
          generalize ((Lib.uvarint z)[j]).toNat = y at hcj hgt
          have hy : y < 256 := by
            by_cases hlast : j + 1 = L
            · have := hgt.2 hlast; omega
            · have := hgt.1 (by omega); omega
          have hmod : z % 128 ^ j < 128 ^ j := Nat.mod_lt _ (Nat.pow_pos (by decide))
          have hp := pow_lt j (by omega)
          generalize hacc : z % 128 ^ j = acc at hmod
          have HA : Hid (z % 128 ^ j = acc) := hacc
          clear hacc
          by_cases hlast : j + 1 = L
          · obtain ⟨h1, h2⟩ := hgt.2 hlast
            have hy1 : y < 128 := by omega
            have HO : Hid (bits .or .u64 (acc : Int) (IntKind.u64.wrap (IntKind.u64.wrap (bits .and .u8 (y : Int) 127) * 2 ^ (7 * j))) = (z : Int)) := by
              show _ = _
              rw [← HA.out]
              exact or_last_masked z j y HZ2.out (by omega) h2 hy1
            clear hgt h1 h2
            go_wp2
            go_roundw
            case rel =>
              rw [HO.out]
              refine ⟨k + 1, E + L, by omega, by go_num, by go_num, HT.out.symm, HF1.out.step hlt z HZ.out, HL1.out.same (Below.heap_setCell _ _ _ _ hgb), ?_, gb_setCell HG1.out _ (by show w.heap.size ≤ w.heap.size + 1; omega) _⟩
              show _ = _
              rw [Below.heap_setCell _ _ _ _ (by show w.heap.size ≠ w.heap.size + 1; omega)]
              exact HB1.out
            case measure => simp [intOf]; omega
          · obtain ⟨h0, h2⟩ := hgt.1 (by omega)
            have h1 : 128 ≤ y := by omega
            have hj9 : j < 9 := by omega
            have HO : Hid (bits .or .u64 (acc : Int) (IntKind.u64.wrap (IntKind.u64.wrap (bits .and .u8 (y : Int) 127) * 2 ^ (7 * j))) = ((z % 128 ^ (j + 1) : Nat) : Int)) := by
              show _ = _
              rw [← HA.out]; exact or_mid z j y hj9 h2
            clear hgt h0 h2
            go_wp2
            go_round
            case rel => exact ⟨j + 1, by omega, by go_num, by rw [HO.out], by go_num⟩
            case measure => simp [intOf]; omega
      · obtain rfl : k = zs.length := by omega
        go_wp2
        go_ret
        exact ⟨_, rfl, by omega, HF1.out, HG1.out⟩

end Go.Proofs.YbulktzaFmt
