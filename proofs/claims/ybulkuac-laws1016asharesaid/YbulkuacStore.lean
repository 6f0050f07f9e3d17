import Derived.Test.YbulkuacInts
namespace Go.Proofs.Ybulkuac
open Go.RowKit
set_option linter.unusedVariables false

/-- The block b has N cells that may be written. -/
def Room (w : World) (b N : Nat) : Prop := ∀ i, i < N → (∃ v, w.cell? ⟨b, i, none⟩ = some v) ∧ w.frozen? ⟨b, i, none⟩ = false

theorem cell_set_same {w : World} {b N j : Nat} (h : Room w b N) (hj : j < N) (u : Value) : (w.setCell ⟨b, j, none⟩ u).cell? ⟨b, j, none⟩ = some u := by
  obtain ⟨⟨v, hv⟩, _⟩ := h j hj
  exact World.cell?_setCell_same w ⟨b, j, none⟩ u hv

theorem cell_set_other {w : World} {b j i : Nat} (h : i ≠ j) (u : Value) : (w.setCell ⟨b, j, none⟩ u).cell? ⟨b, i, none⟩ = w.cell? ⟨b, i, none⟩ := by
  refine World.cell?_setCell_other w ⟨b, j, none⟩ ⟨b, i, none⟩ _ ?_
  intro he
  apply h
  exact (congrArg Addr.off he).symm

theorem Room.set {w : World} {b N : Nat} (h : Room w b N) (j : Nat) (u : Value) : Room (w.setCell ⟨b, j, none⟩ u) b N := by
  intro i hi
  obtain ⟨⟨v, hv⟩, hf⟩ := h i hi
  refine ⟨?_, by rw [World.frozen?_setCell]; exact hf⟩
  by_cases e : i = j
  · subst e; exact ⟨u, World.cell?_setCell_same w ⟨b, i, none⟩ u hv⟩
  · rw [cell_set_other e]; exact ⟨v, hv⟩

theorem Room.of_block {w : World} {b n : Nat} {cur : Array Value} {T : TypeId} (h : w.heap[b]? = some (.cells cur T (0, 0))) (hn : n ≤ cur.size) : Room w b n :=
  fun i hi => ⟨⟨cur[i]'(by omega), by rw [cell_of_row w b i cur T (0, 0) h]; simp⟩, by simp [World.frozen?, h]⟩

/-- The arms' numbers, the first n of them. -/
def St (w : World) (b n : Nat) (W S F : Nat → Nat) : Prop :=
  ∀ i, i < n → w.cell? ⟨b, 3 * i, none⟩ = some (.float .f64 (W i)) ∧ w.cell? ⟨b, 3 * i + 1, none⟩ = some (.float .f64 (S i)) ∧ w.cell? ⟨b, 3 * i + 2, none⟩ = some (.float .f64 (F i))

/-- One arm more is laid. -/
theorem St.snoc {w : World} {b n k : Nat} {W S F : Nat → Nat} (h : St w b k W S F) (hr : Room w b (3 * n)) (hk : k < n) :
    St (((w.setCell ⟨b, 3 * k, none⟩ (.float .f64 (W k))).setCell ⟨b, 3 * k + 1, none⟩ (.float .f64 (S k))).setCell ⟨b, 3 * k + 2, none⟩ (.float .f64 (F k))) b (k + 1) W S F := by
  have r1 := hr.set (3 * k) (.float .f64 (W k))
  have r2 := r1.set (3 * k + 1) (.float .f64 (S k))
  intro i hi
  by_cases e : i = k
  · subst e
    refine ⟨?_, ?_, ?_⟩
    · rw [cell_set_other (by omega), cell_set_other (by omega)]; exact cell_set_same hr (by omega) _
    · rw [cell_set_other (by omega)]; exact cell_set_same r1 (by omega) _
    · exact cell_set_same r2 (by omega) _
  · have := h i (by omega)
    refine ⟨?_, ?_, ?_⟩
    · rw [cell_set_other (by omega), cell_set_other (by omega), cell_set_other (by omega)]; exact this.1
    · rw [cell_set_other (by omega), cell_set_other (by omega), cell_set_other (by omega)]; exact this.2.1
    · rw [cell_set_other (by omega), cell_set_other (by omega), cell_set_other (by omega)]; exact this.2.2

/-- One arm's evidence is turned. -/
theorem St.turn1 {w : World} {b n k x : Nat} {W S F : Nat → Nat} (h : St w b n W S F) (hr : Room w b (3 * n)) (hk : k < n) :
    St (w.setCell ⟨b, 3 * k + 1, none⟩ (.float .f64 x)) b n W (fun i => if i = k then x else S i) F := by
  intro i hi
  have := h i hi
  refine ⟨?_, ?_, ?_⟩
  · rw [cell_set_other (by omega)]; exact this.1
  · show _ = some (Value.float .f64 (if i = k then x else _))
    by_cases e : i = k
    · subst e; rw [if_pos rfl]; exact cell_set_same hr (by omega) _
    · rw [if_neg e, cell_set_other (by omega)]; exact this.2.1
  · rw [cell_set_other (by omega)]; exact this.2.2

theorem St.turn2 {w : World} {b n k x : Nat} {W S F : Nat → Nat} (h : St w b n W S F) (hr : Room w b (3 * n)) (hk : k < n) :
    St (w.setCell ⟨b, 3 * k + 2, none⟩ (.float .f64 x)) b n W S (fun i => if i = k then x else F i) := by
  intro i hi
  have := h i hi
  refine ⟨?_, ?_, ?_⟩
  · rw [cell_set_other (by omega)]; exact this.1
  · rw [cell_set_other (by omega)]; exact this.2.1
  · show _ = some (Value.float .f64 (if i = k then x else _))
    by_cases e : i = k
    · subst e; rw [if_pos rfl]; exact cell_set_same hr (by omega) _
    · rw [if_neg e, cell_set_other (by omega)]; exact this.2.2

theorem St.congr {w : World} {b n : Nat} {W S F S' F' : Nat → Nat} (h : St w b n W S F) (h1 : ∀ i, i < n → S i = S' i) (h2 : ∀ i, i < n → F i = F' i) : St w b n W S' F' := by
  intro i hi
  rw [← h1 i hi, ← h2 i hi]
  exact h i hi

/-- All blocks below B but b are as they were. -/
structure Only (B b : Nat) (w w' : World) : Prop where
  os : w'.os = w.os
  tape : w'.tape = w.tape
  output : w'.output = w.output
  size : w.heap.size ≤ w'.heap.size
  block : ∀ k, k < B → k ≠ b → w'.heap[k]? = w.heap[k]?

theorem Only.refl (B b : Nat) (w : World) : Only B b w w := ⟨rfl, rfl, rfl, Nat.le_refl _, fun _ _ _ => rfl⟩
theorem Only.trans {B b : Nat} {u v w : World} (h : Only B b u v) (k : Only B b v w) : Only B b u w :=
  ⟨k.os.trans h.os, k.tape.trans h.tape, k.output.trans h.output, Nat.le_trans h.size k.size, fun i hi hb => (k.block i hi hb).trans (h.block i hi hb)⟩
theorem Only.of_below {B b : Nat} {w w' : World} (h : Below B w w') : Only B b w w' := ⟨h.os, h.tape, h.output, h.size, fun k hk _ => h.block k hk⟩
theorem Only.below {B b C : Nat} {w w' : World} (h : Only B b w w') (hC : C ≤ B) (hb : C ≤ b) : Below C w w' := ⟨h.os, h.tape, h.output, h.size, fun k hk => h.block k (by omega) (by omega)⟩
theorem Only.drewN {B b : Nat} {u w : World} (h : Only B b u w) (q : Nat) : Only B b u (w.drewN q) := ⟨h.os, h.tape, h.output, h.size, h.block⟩
theorem Only.setCell {B b : Nat} {u w : World} (h : Only B b u w) (j : Nat) (x : Value) : Only B b u (w.setCell ⟨b, j, none⟩ x) :=
  h.trans (Only.of_below (b := b) (B := 0) (Below.refl 0 w |>.setCell (Nat.zero_le _) x) |> fun g => ⟨g.os, g.tape, g.output, g.size, fun k _ hk => Below.heap_setCell w _ _ k hk⟩)
theorem Only.cell {B b : Nat} {w w' : World} (h : Only B b w w') {p : Addr} (hp : p.block < B) (hb : p.block ≠ b) : w'.cell? p = w.cell? p := World.cell?_of_block (w := w) (h.block p.block hp hb)

/-- A row of bytes that came in. -/
def Bts (B : Nat) (w : World) (a : Option Addr) (ds : List Nat) : Prop :=
  ∀ i, i < ds.length → ∃ x, a = some x ∧ x.block < B ∧ w.cell? (x.add i) = some (.int .u8 (ds.getD i 0))

theorem Bts.fr {B : Nat} {w w' : World} {a : Option Addr} {ds : List Nat} (h : Bts B w a ds) (hb : Below B w w') : Bts B w' a ds := by
  intro i hi
  obtain ⟨x, rfl, hx, hc⟩ := h i hi
  refine ⟨x, rfl, hx, ?_⟩
  rw [hb.cell (by unfold Addr.add; split <;> simpa using hx)]
  exact hc

end Go.Proofs.Ybulkuac
