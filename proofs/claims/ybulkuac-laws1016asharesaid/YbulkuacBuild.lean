import Derived.Test.YbulkuacStore
import Derived.Test.YbulkuacWhole
import Derived.Test.YbulkuacLeafB
namespace Go.Proofs.Ybulkuac
open Go.RowKit
set_option linter.unusedVariables false
attribute [local go_sem] run_store_float

theorem enc8 : enc 8 = 4620693217682128896 := by decide
theorem enc4 : enc 4 = 4616189618054758400 := by decide

def wtF (ds : List Nat) (i : Nat) : Nat := (wtB (ds.getD (3 * i) 0)).getD 0
def suF (ds : List Nat) (i : Nat) : Nat := (evB (ds.getD (3 * i + 1) 0 % 64)).getD 0
def faF (ds : List Nat) (i : Nat) : Nat := (evB (ds.getD (3 * i + 2) 0 % 64)).getD 0

theorem cell_set_far {w : World} {b j : Nat} {a : Addr} (h : a.block ≠ b) (u : Value) : (w.setCell ⟨b, j, none⟩ u).cell? a = w.cell? a := by
  refine World.cell?_setCell_other w ⟨b, j, none⟩ a _ ?_
  intro he
  apply h
  exact (congrArg Addr.block he).symm

theorem add_block (x : Addr) (i : Nat) : (x.add i).block = x.block := by unfold Addr.add; split <;> rfl

theorem bd {ds : List Nat} (hz : ∀ z ∈ ds, z < 256) (i : Nat) (hi : i < ds.length) : ds.getD i 0 < 256 := hz _ (by simp [hi])

theorem cell_vals {ds : List Nat} (hz : ∀ z ∈ ds, z < 256) (k : Nat) (hk : 3 * k + 2 < ds.length) :
    Ieee.double.div (floatOfInt .f64 ((ds.getD (3 * k) 0 : Nat) : Int)) 4620693217682128896 = some (wtF ds k) ∧
    Ieee.double.div (floatOfInt .f64 ((ds.getD (3 * k + 1) 0 : Nat) % 64 : Int)) 4616189618054758400 = some (suF ds k) ∧
    Ieee.double.div (floatOfInt .f64 ((ds.getD (3 * k + 2) 0 : Nat) % 64 : Int)) 4616189618054758400 = some (faF ds k) := by
  refine ⟨?_, ?_, ?_⟩
  · obtain ⟨e, he⟩ := wt_some (bd hz (3 * k) (by omega))
    unfold wtF
    rw [he]
    unfold wtB at he
    rw [enc8] at he
    exact he
  · obtain ⟨e, v, he, _⟩ := ev_val (n := ds.getD (3 * k + 1) 0 % 64) (Nat.mod_lt _ (by decide))
    unfold suF
    rw [he]
    unfold evB at he
    rw [enc4] at he
    exact he
  · obtain ⟨e, v, he, _⟩ := ev_val (n := ds.getD (3 * k + 2) 0 % 64) (Nat.mod_lt _ (by decide))
    unfold faF
    rw [he]
    unfold evB at he
    rw [enc4] at he
    exact he

set_option maxHeartbeats 3200000 in
set_option maxRecDepth 100000 in
theorem build_call (a : Option Addr) (cap : Nat) (ds : List Nat) (n : Nat) (hn1 : 3 * n ≤ ds.length) (hn2 : ds.length < 3 * n + 3) (hl : ds.length ≤ 1024) (hz : ∀ z ∈ ds, z < 256) (w : World) (hv : Bts w.heap.size w a ds) :
    Calls Yba.prog 7 #[.slice a ds.length cap] w fun e w' => e = .returned (.slice (some ⟨w.heap.size, 0, none⟩) (3 * n) (3 * n)) ∧
      St w' w.heap.size n (wtF ds) (suF ds) (faF ds) ∧ Room w' w.heap.size (3 * n) ∧ Below w.heap.size w w' ∧ w.heap.size < w'.heap.size := by
  obtain ⟨i0, hi, hz0, hz1, hz2⟩ := info_parts info27
  go_enter Yba.func7, Yba.ntmps7
  go_wp2_with (at_make; refine wpList_make_full _ rfl _ _ 23 rfl w.heap.size 27 i0 (.float .f64 0) 1 Yba.underlying23 hi hz0 hz1 .i64 .i64 _ _ (3 * n) rfl rfl (by omega) (by omega) (by rw [hz2]; omega) (by unfold maxLen; omega) (by simp) ?_; intro w1 hown1 hg1)
  obtain ⟨cur, hcur, hcs⟩ := own_block hown1
  have HR := hid (Room.of_block hcur (Nat.le_of_eq hcs.symm))
  have HS : Hid (w.heap.size < w1.heap.size) := by
    rcases Nat.lt_or_ge w.heap.size w1.heap.size with h | h
    · exact h
    · rw [Array.getElem?_eq_none h] at hcur; cases hcur
  have HB : Hid (Below w.heap.size w w1) := ⟨hg1.os, hg1.tape, hg1.output, hg1.size, fun k hk => hg1.block k hk (by simp)⟩
  clear hown1 hg1 hcur hcs hi hz0 hz1 hz2
  have e3 : (ds.length : Int) / 3 = (n : Int) := by omega
  rw [e3]
  clear e3
  go_loopw [5] (fun vi wr => ∃ k : Nat, k ≤ n ∧ vi = .int .i64 k ∧ Hid (St wr w.heap.size k (wtF ds) (suF ds) (faF ds)) ∧ Hid (Room wr w.heap.size (3 * n)) ∧ Hid (Below w.heap.size w wr) ∧ Hid (w.heap.size < wr.heap.size)) (fun vi _ => n - (intOf vi).toNat)
  case atStart => exact ⟨0, Nat.zero_le _, rfl, fun i hi => by omega, HR, HB, HS⟩
  case round =>
    obtain ⟨k, hk, rfl, HST, HR1, HB1, HS1⟩ := hrel
    clear HR HB HS
    by_cases hlt : k < n
    · obtain ⟨x, rfl, hxb, hc0⟩ := hv.fr HB1.out (3 * k) (by omega)
      obtain ⟨x', hx', _, hc1⟩ := hv.fr HB1.out (3 * k + 1) (by omega)
      cases hx'
      obtain ⟨x', hx', _, hc2⟩ := hv.fr HB1.out (3 * k + 2) (by omega)
      cases hx'
      obtain ⟨g0, g1, g2⟩ := cell_vals hz k (by omega)
      have r0 := run_div g0
      have r1 := run_div g1
      have r2 := run_div g2
      obtain ⟨⟨v0, hv0⟩, hf0⟩ := HR1.out (3 * k) (by omega)
      obtain ⟨⟨v1, hv1⟩, hf1⟩ := HR1.out (3 * k + 1) (by omega)
      obtain ⟨⟨v2, hv2⟩, hf2⟩ := HR1.out (3 * k + 2) (by omega)
      have b0 := Nat.lt_of_lt_of_le (bd hz (3 * k) (by omega)) (Nat.le_refl 256)
      have b1 := bd hz (3 * k + 1) (by omega)
      have b2 := bd hz (3 * k + 2) (by omega)
      clear g0 g1 g2
      have HSN := hid (HST.out.snoc HR1.out hlt)
      have HRN := hid (((HR1.out.set (3 * k) (.float .f64 (wtF ds k))).set (3 * k + 1) (.float .f64 (suF ds k))).set (3 * k + 2) (.float .f64 (faF ds k)))
      have HBN := hid (((HB1.out.setCell (p := ⟨w.heap.size, 3 * k, none⟩) (Nat.le_refl _) (.float .f64 (wtF ds k))).setCell (p := ⟨w.heap.size, 3 * k + 1, none⟩) (Nat.le_refl _) (.float .f64 (suF ds k))).setCell (p := ⟨w.heap.size, 3 * k + 2, none⟩) (Nat.le_refl _) (.float .f64 (faF ds k)))
      have hd1 : wr.cell? ⟨x.block, x.off + (3 * k + 1), none⟩ = some (.int .u8 (ds.getD (3 * k + 1) 0)) := by
        rw [Addr.add_succ'] at hc1; exact hc1
      have hd2 : wr.cell? ⟨x.block, x.off + (3 * k + 2), none⟩ = some (.int .u8 (ds.getD (3 * k + 2) 0)) := by
        rw [Addr.add_succ'] at hc2; exact hc2
      have HSZ : Hid (w.heap.size < (((wr.setCell ⟨w.heap.size, 3 * k, none⟩ (.float .f64 (wtF ds k))).setCell ⟨w.heap.size, 3 * k + 1, none⟩ (.float .f64 (suF ds k))).setCell ⟨w.heap.size, 3 * k + 2, none⟩ (.float .f64 (faF ds k))).heap.size) := by
        have := HS1.out
        show w.heap.size < _
        simpa using this
      clear hc1 hc2
      generalize ds.getD (3 * k) 0 = z0 at *
      generalize ds.getD (3 * k + 1) 0 = z1 at *
      generalize ds.getD (3 * k + 2) 0 = z2 at *
      generalize wtF ds k = W0 at *
      generalize suF ds k = S0 at *
      generalize faF ds k = F0 at *
      go_wp2
      go_roundw
      case rel => exact ⟨k + 1, by omega, by go_num, HSN, HRN, HBN, HSZ⟩
      case measure => simp [intOf]; omega
    · obtain rfl : k = n := by omega
      go_wp2
      go_ret
      exact ⟨rfl, HST.out, HR1.out, HB1.out, HS1.out⟩

end Go.Proofs.Ybulkuac
