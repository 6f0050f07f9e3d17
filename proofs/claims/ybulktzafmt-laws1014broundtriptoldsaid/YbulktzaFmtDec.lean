import Derived.Test.YbulktzaFmtTs
import Derived.OwnWalk
namespace Go.Proofs.YbulktzaFmt
open Go.RowKit
set_option linter.unusedVariables false

theorem info22 : (Ybaf.prog.info? 22).map (fun i => (i.zero, i.size, i.bytes)) = some (some (.int .u64 0), 1, 8) := by kernel_rfl

/-- The row of numbers in block b, as far as it is filled: n cells that may be written, the first k of them hold zs. -/
def Fill (w : World) (b n k : Nat) (zs : List Nat) : Prop :=
  (∀ i, i < n → (∃ v, w.cell? ⟨b, i, none⟩ = some v) ∧ w.frozen? ⟨b, i, none⟩ = false) ∧ ∀ i, i < k → w.cell? ⟨b, i, none⟩ = some (.int .u64 ((zs.getD i 0 : Nat) : Int))

theorem Fill.of_block {w : World} {b n : Nat} {cur : Array Value} {T : TypeId} (h : w.heap[b]? = some (.cells cur T (0, 0))) (hn : n ≤ cur.size) (zs : List Nat) : Fill w b n 0 zs :=
  ⟨fun i hi => ⟨⟨cur[i]'(by omega), by rw [cell_of_row w b i cur T (0, 0) h]; simp⟩, by simp [World.frozen?, h]⟩, fun i hi => by omega⟩

theorem Fill.step {w : World} {b n k : Nat} {zs : List Nat} (h : Fill w b n k zs) (hk : k < n) (z : Nat) (hz : zs.getD k 0 = z) : Fill (w.setCell ⟨b, k, none⟩ (.int .u64 (z : Int))) b n (k + 1) zs := by
  obtain ⟨⟨v, hv⟩, _⟩ := h.1 k hk
  have hs := World.cell?_setCell_same w ⟨b, k, none⟩ (.int .u64 (z : Int)) hv
  have ho : ∀ i, i ≠ k → (w.setCell ⟨b, k, none⟩ (.int .u64 (z : Int))).cell? ⟨b, i, none⟩ = w.cell? ⟨b, i, none⟩ := by
    intro i hi
    refine World.cell?_setCell_other w ⟨b, k, none⟩ ⟨b, i, none⟩ _ ?_
    intro he
    apply hi
    have := congrArg Addr.off he
    exact this.symm
  refine ⟨fun i hi => ⟨?_, ?_⟩, fun i hi => ?_⟩
  · by_cases e : i = k
    · subst e; exact ⟨_, hs⟩
    · rw [ho i e]; exact (h.1 i hi).1
  · rw [World.frozen?_setCell]; exact (h.1 i hi).2
  · by_cases e : i = k
    · subst e; rw [hs, hz]
    · rw [ho i e]; exact h.2 i (by omega)

theorem Fill.same {w w' : World} {b n k : Nat} {zs : List Nat} (h : Fill w b n k zs) (hb : w'.heap[b]? = w.heap[b]?) : Fill w' b n k zs :=
  ⟨fun i hi => by rw [World.cell?_of_block (w := w) (a := ⟨b, i, none⟩) hb, World.frozen?_of_block (w := w) (a := ⟨b, i, none⟩) hb]; exact h.1 i hi, fun i hi => by rw [World.cell?_of_block (w := w) (a := ⟨b, i, none⟩) hb]; exact h.2 i hi⟩

theorem gb_setRow {w w2 : World} {b : Nat} (h : w.grownBy w2 (some b)) (a : Addr) (ha : a.block = b) (u : Value) : w.grownBy (w2.setCell a u) (some b) :=
  ⟨h.os, h.tape, h.output, by simp [World.setCell]; exact h.size, fun k hk hr => (Below.heap_setCell w2 a u k (fun e => hr (by rw [e, ha]))).trans (h.block k hk hr)⟩

theorem or_last_masked (z j y : Nat) (hz : z < 18446744073709551616) (hj : j < 10) (hy : y = z / 128 ^ j) (hy1 : y < 128) :
    bits .or .u64 ((z % 128 ^ j : Nat) : Int) (IntKind.u64.wrap (IntKind.u64.wrap (bits .and .u8 (y : Int) 127) * 2 ^ (7 * j))) = (z : Int) := by
  have e1 : bits .and .u8 (y : Int) 127 = (y : Int) := by rw [u8_and127 _ (by omega) (by omega)]; omega
  have e2 : IntKind.u64.wrap (y : Int) = (y : Int) := u64_wrap_id _ (by omega) (by omega)
  rw [e1, e2, hy]
  exact or_last z j hz hj

theorem dec_zero (v : Value) (into : Value) (w : World) :
    Calls Ybaf.prog 18 #[.agg #[.int .i64 0, v], into] w fun e w' => e = .returned (.slice none 0 0) ∧ w.grownBy w' none := by
  go_enter Ybaf.func18, Ybaf.ntmps18
  go_wp2
  go_ret
  exact ⟨rfl, World.grownBy_alloc w _ none⟩

set_option maxHeartbeats 3200000 in
set_option maxRecDepth 100000 in
/-- decodeInto where 'into' has room. -/
theorem dec_room (g o M c : Nat) (zs : List Nat) (hz : ∀ z ∈ zs, z < 18446744073709551616) (hzl : zs.length ≤ 1024) (hz0 : 0 < zs.length) (hM : M = (vars zs).length) (hc : M ≤ c) (hcm : c ≤ maxLen) (b li ci : Nat) (hci : zs.length ≤ ci) (hli : li ≤ ci) (hcim : ci ≤ maxLen) (w : World) (hg : g < w.heap.size) (hb : b < w.heap.size) (hgb : g ≠ b) (hl : Lies w g o (vars zs)) (hf : Fill w b zs.length 0 zs) :
    Calls Ybaf.prog 18 #[.agg #[.int .i64 zs.length, .slice (some ⟨g, o, none⟩) M c], .slice (some ⟨b, 0, none⟩) li ci] w fun e w' => e = .returned (.slice (some ⟨b, 0, none⟩) zs.length ci) ∧ Fill w' b zs.length zs.length zs ∧ w.grownBy w' (some b) := by
  have hvl := vars_len zs hz
  have HM := hid hM
  have hM2 : M ≤ 10240 := by omega
  obtain ⟨O, hO⟩ : ∃ O : Obj, O = Obj.cells #[Value.int IntKind.i64 zs.length, Value.slice (some ⟨g, o, none⟩) M c] 49 := ⟨_, rfl⟩
  have hl1 : Lies (w.alloc O) g o (vars zs) := hl.same (Below.heap_alloc w _ g hg)
  have hf1 : Fill (w.alloc O) b zs.length 0 zs := hf.same (Below.heap_alloc w _ b hb)
  have hbx : (w.alloc O).heap[w.heap.size]? = some O := heap_alloc_new w O
  have hs1 : (w.alloc O).heap.size = w.heap.size + 1 := by simp
  have HL := hid hl1
  have HF := hid hf1
  have HB := hid hbx
  have HG := hid (World.grownBy_alloc w O (some b))
  have hlen0 : ((zs.length : Int) == 0) = false := beq_eq_false_iff_ne.2 (by omega)
  unfold maxLen at hcm hcim
  subst hO
  clear hM hl hf hl1 hf1 hvl hbx hs1
  go_enter Ybaf.func18, Ybaf.ntmps18
  go_wp2
  go_loopw [6, 30] (fun vat vi wr => ∃ k E : Nat, k ≤ zs.length ∧ vi = .int .i64 k ∧ vat = .int .i64 E ∧ Hid (E = (vars (zs.take k)).length) ∧ Hid (Fill wr b zs.length k zs) ∧ Hid (Lies wr g o (vars zs)) ∧ Hid (wr.heap[w.heap.size]? = some (Obj.cells #[Value.int IntKind.i64 zs.length, Value.slice (some ⟨g, o, none⟩) M c] 49 (0, 0))) ∧ Hid (w.grownBy wr (some b)))
    (fun _ vi _ => zs.length - (intOf vi).toNat)
  case atStart => exact ⟨0, 0, Nat.zero_le _, rfl, rfl, rfl, HF, HL, HB, HG⟩
  case round =>
    obtain ⟨k, E, hk, rfl, rfl, HE, HF1, HL1, HB1, HG1⟩ := hrel
    clear HF HL HB HG
    obtain ⟨hq1, _⟩ := blk_cells HB1.out 1 _ rfl
    by_cases hlt : k < zs.length
    · have hzk := hz zs[k] (by simp)
      have hlen := Lib.uvarint_length64 hzk
      have hpos := Lib.uvarint_pos zs[k]
      have hle := vars_take_le zs k hlt
      rw [← HE.out, ← HM.out] at hle
      have hlk : Lies wr g (o + E) (Lib.uvarint zs[k]) := by
        have h2 := HL1.out
        rw [vars_split zs k hlt] at h2
        rw [HE.out]
        exact h2.right.left
      have hts := vars_take_len zs k hlt
      rw [← HE.out] at hts
      have hzget : zs.getD k 0 = zs[k] := by simp [hlt]
      obtain ⟨z, hzz⟩ : ∃ z, z = zs[k] := ⟨_, rfl⟩
      rw [← hzz] at hzk hlen hpos hle hlk hts hzget
      obtain ⟨L, hL⟩ : ∃ L, L = (Lib.uvarint z).length := ⟨_, rfl⟩
      rw [← hL] at hlen hpos hle hts
      have HT : Hid ((vars (zs.take (k + 1))).length = E + L) := hts
      have HZ : Hid (zs.getD k 0 = z) := hzget
      have HLk := hid hlk
      have HLL := hid hL
      have HZ2 := hid hzk
      obtain ⟨⟨v0, hv0⟩, hfz⟩ := HF1.out.1 k hlt
      clear hts hL hlk hzk hzz hzget
      go_wp2
      go_loop [6, 8, 9] (fun vat vx vs => ∃ j : Nat, j < L ∧ vat = .int .i64 ((E + j : Nat) : Int) ∧ vx = .int .u64 ((z % 128 ^ j : Nat) : Int) ∧ vs = .int .u64 ((7 * j : Nat) : Int)) (fun vat _ _ => E + L - (intOf vat).toNat)
      case atStart => exact ⟨0, by omega, by simp, by simp [Nat.mod_one], rfl⟩
      case round =>
        obtain ⟨j, hj, rfl, rfl, rfl⟩ := hrel
        have hjL : j < (Lib.uvarint z).length := by rw [← HLL.out]; exact hj
        have hcj := HLk.out j hjL
        rw [Nat.add_assoc] at hcj
        have hgt := uv_get z j hjL
        rw [← HLL.out] at hgt
        generalize ((Lib.uvarint z)[j]).toNat = y at hcj hgt
        have hy : y < 256 := by
          by_cases hlast : j + 1 = L
          · have := hgt.2 hlast; omega
          · have := hgt.1 (by omega); omega
        have hmod : z % 128 ^ j < 128 ^ j := Nat.mod_lt _ (Nat.pow_pos (by decide))
        have hp := pow_lt j (by omega)
        generalize hacc : z % 128 ^ j = acc at hmod
        have HA : Hid (z % 128 ^ j = acc) := hacc
        clear hacc
        by_cases hlast : j + 1 = L
        · obtain ⟨h1, h2⟩ := hgt.2 hlast
          have hy1 : y < 128 := by omega
          have HO : Hid (bits .or .u64 (acc : Int) (IntKind.u64.wrap (IntKind.u64.wrap (bits .and .u8 (y : Int) 127) * 2 ^ (7 * j))) = (z : Int)) := by
            show _ = _
            rw [← HA.out]
            exact or_last_masked z j y HZ2.out (by omega) h2 hy1
          clear hgt h1 h2
          go_wp2
          go_roundw
          case rel =>
            rw [HO.out]
            refine ⟨k + 1, E + L, by omega, by go_num, by go_num, HT.out.symm, HF1.out.step hlt z HZ.out, HL1.out.same (Below.heap_setCell _ _ _ _ hgb), ?_, gb_setRow HG1.out _ rfl _⟩
            show _ = _
            rw [Below.heap_setCell _ _ _ _ (by simp; omega)]
            exact HB1.out
          case measure => simp [intOf]; omega
        · obtain ⟨h0, h2⟩ := hgt.1 (by omega)
          have h1 : 128 ≤ y := by omega
          have hj9 : j < 9 := by omega
          have HO : Hid (bits .or .u64 (acc : Int) (IntKind.u64.wrap (IntKind.u64.wrap (bits .and .u8 (y : Int) 127) * 2 ^ (7 * j))) = ((z % 128 ^ (j + 1) : Nat) : Int)) := by
            show _ = _
            rw [← HA.out]; exact or_mid z j y hj9 h2
          clear hgt h0 h2
          go_wp2
          go_round
          case rel => exact ⟨j + 1, by omega, by go_num, by rw [HO.out], by go_num⟩
          case measure => simp [intOf]; omega
    · obtain rfl : k = zs.length := by omega
      go_wp2
      go_ret
      exact ⟨rfl, HF1.out, HG1.out⟩

end Go.Proofs.YbulktzaFmt
