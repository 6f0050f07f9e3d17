import Derived.Test.YbulkuacCutFn
import Derived.Laws.CopyOwn
namespace Go.Proofs.Ybulkuac
open Go.RowKit
set_option linter.unusedVariables false

/-- A row of Booleans that came in. -/
def Bls (B : Nat) (w : World) (a : Option Addr) (cb : List Bool) : Prop :=
  ∀ i, i < cb.length → ∃ x, a = some x ∧ x.block < B ∧ w.cell? (x.add i) = some (.bool (cb.getD i false))

theorem Bls.fr {B : Nat} {w w' : World} {a : Option Addr} {cb : List Bool} (h : Bls B w a cb) (hb : Below B w w') : Bls B w' a cb := by
  intro i hi
  obtain ⟨x, rfl, hx, hc⟩ := h i hi
  refine ⟨x, rfl, hx, ?_⟩
  rw [hb.cell (by rw [add_block]; exact hx)]
  exact hc

/-- The arms' numbers in one row. -/
def flat (W s f : Nat → Nat) (p : Nat) : Nat := if p % 3 = 0 then W (p / 3) else if p % 3 = 1 then s (p / 3) else f (p / 3)
def flatCells (W s f : Nat → Nat) (n : Nat) : List Value := (List.range (3 * n)).map fun p => Value.float .f64 (flat W s f p)

theorem flatCells_length (W s f : Nat → Nat) (n : Nat) : (flatCells W s f n).length = 3 * n := by simp [flatCells]
theorem flatCells_get {W s f : Nat → Nat} {n p : Nat} (h : p < 3 * n) : (flatCells W s f n)[p]? = some (Value.float .f64 (flat W s f p)) := by simp [flatCells, h]

theorem src_flat {w : World} {b n : Nat} {W s f : Nat → Nat} (h : St w b n W s f) : ∀ j v, (flatCells W s f n)[j]? = some v → w.cell? ((⟨b, 0, none⟩ : Addr).add j) = some v := by
  intro j v hj
  have hl : j < 3 * n := by
    have := (List.getElem?_eq_some_iff.1 hj).1
    rw [flatCells_length] at this
    exact this
  rw [flatCells_get hl] at hj
  rw [Addr.add_lit, Nat.zero_add, ← hj]
  have hc := h (j / 3) (by omega)
  unfold flat
  by_cases h0 : j % 3 = 0
  · rw [if_pos h0]
    have e : 3 * (j / 3) = j := by omega
    rw [e] at hc; exact hc.1
  · rw [if_neg h0]
    by_cases h1 : j % 3 = 1
    · rw [if_pos h1]
      have e : 3 * (j / 3) + 1 = j := by omega
      rw [e] at hc; exact hc.2.1
    · rw [if_neg h1]
      have e : 3 * (j / 3) + 2 = j := by omega
      rw [e] at hc; exact hc.2.2

theorem St.of_flat {w : World} {g n : Nat} {W s f : Nat → Nat} {arr : Array Value} {T : TypeId} (h : w.heap[g]? = some (.cells arr T (0, 0))) (ha : arr.toList = flatCells W s f n) : St w g n W s f := by
  have key : ∀ p, p < 3 * n → w.cell? ⟨g, p, none⟩ = some (.float .f64 (flat W s f p)) := by
    intro p hp
    rw [cell_of_row w g p arr T (0, 0) h, ← Array.getElem?_toList, ha, flatCells_get hp]
  intro i hi
  have e0 := key (3 * i) (by omega)
  have e1 := key (3 * i + 1) (by omega)
  have e2 := key (3 * i + 2) (by omega)
  have f0 : flat W s f (3 * i) = W i := by unfold flat; rw [if_pos (by omega)]; congr 1; omega
  have f1 : flat W s f (3 * i + 1) = s i := by unfold flat; rw [if_neg (by omega), if_pos (by omega)]; congr 1; omega
  have f2 : flat W s f (3 * i + 2) = f i := by unfold flat; rw [if_neg (by omega), if_neg (by omega)]; congr 1; omega
  rw [f0] at e0; rw [f1] at e1; rw [f2] at e2
  exact ⟨e0, e1, e2⟩

theorem size27 : (Yba.prog.info? 27).map (·.size) = some 1 := by kernel_rfl

/-- Behind the copy: both rows, and all below. -/
theorem copied {w w2 : World} {B n : Nat} {W s f : Nat → Nat} {cur : Array Value} (hB : B < w.heap.size) (hst : St w B n W s f) (hr : Room w B (3 * n)) (hg : w.grownBy w2 none)
    (hcur : w2.heap[w.heap.size]? = some (.cells cur 27 (0, 0))) (hcs : cur.size = 3 * n) :
    ∃ w3, w3 = w2.setRow w.heap.size (cur.toList.take 0 ++ (flatCells W s f n ++ cur.toList.drop (0 + (flatCells W s f n).length))).toArray ∧
      St w3 B n W s f ∧ Room w3 B (3 * n) ∧ St w3 w.heap.size n W s f ∧ Below w.heap.size w w3 ∧ w.heap.size < w3.heap.size := by
  refine ⟨_, rfl, ?_⟩
  have hb : Below w.heap.size w (w2.setRow w.heap.size (cur.toList.take 0 ++ (flatCells W s f n ++ cur.toList.drop (0 + (flatCells W s f n).length))).toArray) :=
    below_setRow (⟨hg.os, hg.tape, hg.output, hg.size, fun k hk => hg.block k hk (by simp)⟩) (Nat.le_refl _) _
  have hh := setRow_heap w2 w.heap.size cur (cur.toList.take 0 ++ (flatCells W s f n ++ cur.toList.drop (0 + (flatCells W s f n).length))).toArray 27 (0, 0) hcur
  refine ⟨hst.fr hB hb, hr.fr hB hb, St.of_flat hh ?_, hb, ?_⟩
  · have : cur.toList.drop (0 + (flatCells W s f n).length) = [] := by
      rw [flatCells_length]
      apply List.drop_eq_nil_of_le
      simp [hcs]
    rw [this]
    simp
  · generalize (cur.toList.take 0 ++ (flatCells W s f n ++ cur.toList.drop (0 + (flatCells W s f n).length))).toArray = arr at *
    rcases Nat.lt_or_ge w.heap.size (w2.setRow w.heap.size arr).heap.size with h | h
    · exact h
    · rw [Array.getElem?_eq_none h] at hh; cases hh

theorem copied' {w w2 : World} {B n : Nat} {W s f : Nat → Nat} {cur : Array Value} (hB : B < w.heap.size) (hst : St w B n W s f) (hr : Room w B (3 * n)) (hg : w.grownBy w2 none)
    (hcur : w2.heap[w.heap.size]? = some (.cells cur 27 (0, 0))) (hcs : cur.size = 3 * n) :
    ∃ w3, w3 = w2.setRow w.heap.size (flatCells W s f n ++ List.drop (flatCells W s f n).length cur.toList).toArray ∧
      St w3 B n W s f ∧ Room w3 B (3 * n) ∧ St w3 w.heap.size n W s f ∧ Below w.heap.size w w3 ∧ w.heap.size < w3.heap.size ∧ w3.heap.size = w2.heap.size := by
  obtain ⟨w3, h0, h1, h2, h3, h4, h5⟩ := copied hB hst hr hg hcur hcs
  have e : (cur.toList.take 0 ++ (flatCells W s f n ++ cur.toList.drop (0 + (flatCells W s f n).length))).toArray = (flatCells W s f n ++ List.drop (flatCells W s f n).length cur.toList).toArray := by simp
  rw [e] at h0
  refine ⟨w3, h0, h1, h2, h3, h4, h5, ?_⟩
  rw [h0]
  simp

set_option maxHeartbeats 1600000 in
set_option maxRecDepth 100000 in
theorem law_long1 (a ac : Option Addr) (dl cap cl capc : Nat) (t d k : Int) (w : World) (hm : dl ≤ maxLen) (h : 1024 < dl) :
    Calls Yba.prog 4 #[.slice a dl cap, .slice ac cl capc, .int .u8 t, .int .u8 d, .int .u8 k] w fun e w' => e = .returned (.bool true) ∧ Below w.heap.size w w' := by
  unfold maxLen at hm
  go_enter Yba.func4, Yba.ntmps4
  go_wp2
  go_ret
  exact ⟨rfl, Below.refl _ _⟩

set_option maxHeartbeats 1600000 in
set_option maxRecDepth 100000 in
theorem law_long2 (a ac : Option Addr) (dl cap cl capc : Nat) (t d k : Int) (w : World) (hm : dl ≤ 1024) (hm2 : cl ≤ maxLen) (h : 1024 < cl) :
    Calls Yba.prog 4 #[.slice a dl cap, .slice ac cl capc, .int .u8 t, .int .u8 d, .int .u8 k] w fun e w' => e = .returned (.bool true) ∧ Below w.heap.size w w' := by
  unfold maxLen at hm2
  go_enter Yba.func4, Yba.ntmps4
  go_wp2
  go_ret
  exact ⟨rfl, Below.refl _ _⟩

end Go.Proofs.Ybulkuac
