import Derived.Test.YbulktzaFmtLen
namespace Go.Proofs.YbulktzaFmt
open Go.RowKit
set_option linter.unusedVariables false

theorem gb_alloc_drewN (w : World) (o : Obj) (q : Nat) (row : Option Nat) : w.grownBy ((w.alloc o).drewN q) row :=
  ⟨rfl, rfl, rfl, by simp, fun k hk _ => Below.heap_alloc w o k hk⟩

theorem gb_drewN (w : World) (q : Nat) (row : Option Nat) : w.grownBy (w.drewN q) row := ⟨rfl, rfl, rfl, Nat.le_refl _, fun _ _ _ => rfl⟩

theorem gb_refl (w : World) (row : Option Nat) : w.grownBy w row := ⟨rfl, rfl, rfl, Nat.le_refl _, fun _ _ _ => rfl⟩

theorem gb_trans {a b c : World} {row : Option Nat} (h : a.grownBy b row) (k : b.grownBy c row) : a.grownBy c row :=
  ⟨k.os.trans h.os, k.tape.trans h.tape, k.output.trans h.output, Nat.le_trans h.size k.size, fun i hi hr => (k.block i (Nat.lt_of_lt_of_le hi h.size) hr).trans (h.block i hi hr)⟩

theorem Lies.gb {w w' : World} {g o : Nat} {l : List UInt8} {row : Option Nat} (h : Lies w g o l) (hg : w.grownBy w' row) (hlt : g < w.heap.size) (hr : some g ≠ row) : Lies w' g o l :=
  h.same (hg.block g hlt hr)

set_option maxHeartbeats 1600000 in
set_option maxRecDepth 100000 in
theorem read_any (g o n c x : Nat) (hx : x < 18446744073709551616) (hn : (Lib.uvarint x).length ≤ n) (hnc : n ≤ c) (hm : c ≤ maxLen) (w : World) (hl : Lies w g o (Lib.uvarint x)) :
    Calls Ybaf.prog 22 #[.slice (some ⟨g, o, none⟩) n c] w fun e w' => ∃ o' q, e = .returned (.tuple #[.int .u64 x, .slice (some ⟨g, o', none⟩) (n - (Lib.uvarint x).length) (c - (Lib.uvarint x).length), .nilIface]) ∧ (c ≠ (Lib.uvarint x).length → o' = o + (Lib.uvarint x).length) ∧ w' = w.drewN q := by
  have hlen := Lib.uvarint_length64 hx
  have hpos := Lib.uvarint_pos x
  have hV := vlen_any g o n c x hx hn (by omega) w hl
  have hU := uv_any g o c x hx w hl
  unfold maxLen at hm
  obtain ⟨L, hL⟩ : ∃ L, L = (Lib.uvarint x).length := ⟨_, rfl⟩
  rw [← hL] at hlen hpos hn hV hU ⊢
  clear hL hx hl
  go_enter Ybaf.func22, Ybaf.ntmps22
  go_wp2_with (first | (go_at_call 28; refine hV.mono ?_; rintro e w1 ⟨rfl, rfl⟩) | (go_at_call 29; refine hU.mono ?_; rintro e w1 ⟨rfl, rfl⟩))
  by_cases hcL : c = L
  · subst hcL
    go_quiet (fail)
    go_wp2
    go_ret3
    obtain rfl : n = c := by omega
    exact ⟨o, _, by simp [Nat.sub_self], fun h => absurd rfl h, rfl⟩
  · go_quiet (fail)
    go_wp2
    go_ret3
    exact ⟨o + L, _, rfl, fun _ => rfl, rfl⟩

set_option maxHeartbeats 1600000 in
set_option maxRecDepth 100000 in
theorem counts_any (g o n c : Nat) (zs : List Nat) (hz : ∀ z ∈ zs, z < 18446744073709551616) (hzl : zs.length ≤ 1024) (hn : n = (vars zs).length) (hnc : n ≤ c) (hm : c ≤ maxLen) (w : World) (hg : g < w.heap.size) (hl : Lies w g o (vars zs)) :
    Calls Ybaf.prog 32 #[.int .i64 zs.length, .slice (some ⟨g, o, none⟩) n c] w fun e w' => ∃ o', e = .returned (.tuple #[.agg #[.int .i64 zs.length, .slice (some ⟨g, o, none⟩) n c], .slice (some ⟨g, o', none⟩) 0 (c - n), .int .i64 0, .nilIface]) ∧ w.grownBy w' none := by
  unfold maxLen at hm
  have hvl := vars_len zs hz
  have HN : Hid (n = (vars zs).length) := hn
  have hn10 : n ≤ 10240 := by omega
  have hl2 : Lies (w.alloc (Obj.cells #[Value.int IntKind.i64 0, Value.slice none 0 0] 49)) g o (vars zs) := hl.same (Below.heap_alloc w _ g hg)
  clear hn hvl hl
  go_enter Ybaf.func32, Ybaf.ntmps32
  go_wp2
  go_loop [8, 13] (fun ve vi => ∃ k E : Nat, k ≤ zs.length ∧ vi = .int .i64 k ∧ ve = .int .i64 E ∧ Hid (E = (vars (zs.take k)).length)) (fun _ vi => zs.length - (intOf vi).toNat)
  case atStart => exact ⟨0, 0, by omega, rfl, rfl, rfl⟩
  case round =>
    obtain ⟨k, E, hk, rfl, rfl, HE⟩ := hrel
    by_cases hlt : k < zs.length
    · have hzk := hz zs[k] (by simp)
      have hlen := Lib.uvarint_length64 hzk
      have hpos := Lib.uvarint_pos zs[k]
      have hle := vars_take_le zs k hlt
      rw [← HE.out, ← HN.out] at hle
      have hlk : Lies (w.alloc (Obj.cells #[Value.int IntKind.i64 0, Value.slice none 0 0] 49)) g (o + E) (Lib.uvarint zs[k]) := by
        have h2 := hl2
        rw [vars_split zs k hlt] at h2
        rw [HE.out]
        exact h2.right.left
      have hV := vlen_any g (o + E) (n - E) (c - E) zs[k] hzk (by omega) (by unfold maxLen; omega) _ hlk
      have hts := vars_take_len zs k hlt
      rw [← HE.out] at hts
      obtain ⟨L, hL⟩ : ∃ L, L = (Lib.uvarint zs[k]).length := ⟨_, rfl⟩
      rw [← hL] at hlen hpos hle hV hts
      have HT : Hid ((vars (zs.take (k + 1))).length = E + L) := hts
      clear hts hL hlk hzk hl2
      have hcE : ¬ c = E := by omega
      go_wp2_with (go_at_call 28; refine hV.mono ?_; rintro e w1 ⟨rfl, rfl⟩)
      go_round
      case rel => exact ⟨k + 1, E + L, by omega, by go_num, by go_num, HT.out.symm⟩
      case measure => simp [intOf]; omega
    · obtain rfl : k = zs.length := by omega
      have hEn : E = n := by rw [HE.out, HN.out, List.take_length]
      subst hEn
      clear hl2 hz HE
      by_cases hcE : c = E
      · subst hcE
        go_wp2
        go_region
        go_wp2
        refine bodyPost_ret (v := .tuple #[.agg #[.int .i64 zs.length, .slice (some ⟨g, o, none⟩) c c], .slice (some ⟨g, o, none⟩) 0 0, .int .i64 0, .nilIface]) (by simp [results, Ybaf.results32, go_sem]) rfl ⟨o, by rw [Nat.sub_self], ?_⟩
        exact gb_alloc_drewN w _ 1 none
      · go_wp2
        go_region
        go_wp2
        refine bodyPost_ret (v := .tuple #[.agg #[.int .i64 zs.length, .slice (some ⟨g, o, none⟩) E c], .slice (some ⟨g, o + E, none⟩) 0 (c - E), .int .i64 0, .nilIface]) (by simp [results, Ybaf.results32, go_sem]) rfl ⟨o + E, rfl, ?_⟩
        exact gb_alloc_drewN w _ 1 none

end Go.Proofs.YbulktzaFmt
