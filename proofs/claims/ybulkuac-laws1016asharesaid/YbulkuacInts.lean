import Derived.Test.YbulkuacSum
import Derived.OwnWalk
namespace Go.Proofs.Ybulkuac
open Go.RowKit
set_option linter.unusedVariables false

theorem info27 : (Yba.prog.info? 27).map (fun i => (i.zero, i.size, i.bytes)) = some (some (.float .f64 0), 1, 8) := by kernel_rfl

theorem run_store_float {P : Program} (w : World) (a : Addr) (m : Mode) (k : FloatKind) (n : Nat) : (store a (.float k n) m).run P w = stored P w a (.float k n) m := run_store P w a _ m rfl
attribute [local go_sem] run_store_float

/-- The row in block b, as far as it is filled. -/
def Fill (w : World) (b n k : Nat) (zs : List Int) : Prop :=
  (∀ i, i < n → (∃ v, w.cell? ⟨b, i, none⟩ = some v) ∧ w.frozen? ⟨b, i, none⟩ = false) ∧ ∀ i, i < k → w.cell? ⟨b, i, none⟩ = some (.float .f64 (enc (zs.getD i 0)))

theorem Fill.of_block {w : World} {b n : Nat} {cur : Array Value} {T : TypeId} (h : w.heap[b]? = some (.cells cur T (0, 0))) (hn : n ≤ cur.size) (zs : List Int) : Fill w b n 0 zs :=
  ⟨fun i hi => ⟨⟨cur[i]'(by omega), by rw [cell_of_row w b i cur T (0, 0) h]; simp⟩, by simp [World.frozen?, h]⟩, fun i hi => by omega⟩

theorem Fill.step {w : World} {b n k : Nat} {zs : List Int} (h : Fill w b n k zs) (hk : k < n) (u : Nat) (hz : enc (zs.getD k 0) = u) : Fill (w.setCell ⟨b, k, none⟩ (.float .f64 u)) b n (k + 1) zs := by
  obtain ⟨⟨v, hv⟩, _⟩ := h.1 k hk
  have hs := World.cell?_setCell_same w ⟨b, k, none⟩ (.float .f64 u) hv
  have ho : ∀ i, i ≠ k → (w.setCell ⟨b, k, none⟩ (.float .f64 u)).cell? ⟨b, i, none⟩ = w.cell? ⟨b, i, none⟩ := by
    intro i hi
    refine World.cell?_setCell_other w ⟨b, k, none⟩ ⟨b, i, none⟩ _ ?_
    intro he
    apply hi
    have := congrArg Addr.off he
    exact this.symm
  refine ⟨fun i hi => ⟨?_, ?_⟩, fun i hi => ?_⟩
  · by_cases e : i = k
    · subst e; exact ⟨_, hs⟩
    · rw [ho i e]; exact (h.1 i hi).1
  · rw [World.frozen?_setCell]; exact (h.1 i hi).2
  · by_cases e : i = k
    · subst e; rw [hs, hz]
    · rw [ho i e]; exact h.2 i (by omega)

theorem own_block {w : World} {B g n : Nat} {xs : List Value} (h : w.ownsRow B 27 1 (.slice (some ⟨g, 0, none⟩) n n) n xs) : ∃ cur, w.heap[g]? = some (.cells cur 27 (0, 0)) ∧ cur.size = n := by
  rcases h.2 with ⟨h, _⟩ | ⟨g', cap, cur, h, _, hh, h3, _, h5, _⟩
  · simp at h
  · simp at h
    obtain ⟨⟨rfl⟩, rfl⟩ := h
    exact ⟨cur, hh, by omega⟩

/-- A row of numbers that came in. -/
def Vec (B : Nat) (w : World) (a : Option Addr) (zs : List Int) : Prop :=
  ∀ i, i < zs.length → ∃ x, a = some x ∧ x.block < B ∧ w.cell? (x.add i) = some (.int .i16 (zs.getD i 0))

theorem Vec.fr {B : Nat} {w w' : World} {a : Option Addr} {zs : List Int} (h : Vec B w a zs) (hb : Below B w w') : Vec B w' a zs := by
  intro i hi
  obtain ⟨x, rfl, hx, hc⟩ := h i hi
  refine ⟨x, rfl, hx, ?_⟩
  rw [hb.cell (by unfold Addr.add; split <;> simpa using hx)]
  exact hc

theorem sum_bd (l : List Int) (h : ∀ z ∈ l, -32768 ≤ z ∧ z ≤ 32767) : -(32768 * (l.length : Int)) ≤ l.sum ∧ l.sum ≤ 32768 * (l.length : Int) := by
  induction l with
  | nil => simp
  | cons a t ih =>
    have h1 := ih (fun z hz => h z (by simp [hz]))
    have h2 := h a (by simp)
    simp only [List.sum_cons, List.length_cons]
    omega

theorem below_setCell_new {w wr : World} (h : Below w.heap.size w wr) (k : Nat) (u : Value) : Below w.heap.size w (wr.setCell ⟨w.heap.size, k, none⟩ u) := h.setCell (Nat.le_refl _) u

set_option maxHeartbeats 1600000 in
set_option maxRecDepth 100000 in
theorem ints_long (a : Option Addr) (len cap : Nat) (w : World) (hm : len ≤ maxLen) (h : 1024 < len) :
    Calls Yba.prog 5 #[.slice a len cap] w fun e w' => e = .returned (.bool true) ∧ Below w.heap.size w w' := by
  unfold maxLen at hm
  go_enter Yba.func5, Yba.ntmps5
  go_wp2
  go_ret
  exact ⟨rfl, Below.refl _ _⟩

set_option maxHeartbeats 1600000 in
set_option maxRecDepth 100000 in
theorem ints_short (a : Option Addr) (cap : Nat) (zs : List Int) (hl : zs.length ≤ 1024) (hz : ∀ z ∈ zs, -32768 ≤ z ∧ z ≤ 32767) (w : World) (hv : Vec w.heap.size w a zs) :
    Calls Yba.prog 5 #[.slice a zs.length cap] w fun e w' => e = .returned (.bool true) ∧ Below w.heap.size w w' := by
  obtain ⟨i0, hi, hz0, hz1, hz2⟩ := info_parts info27
  go_enter Yba.func5, Yba.ntmps5
  go_wp2_with (at_make; refine wpList_make_full _ rfl _ _ 23 rfl w.heap.size 27 i0 (.float .f64 0) 1 Yba.underlying23 hi hz0 hz1 .i64 .i64 _ _ zs.length rfl rfl rfl rfl (by rw [hz2]; omega) (by unfold maxLen; omega) (by simp) ?_; intro w1 hown1 hg1)
  obtain ⟨cur, hcur, hcs⟩ := own_block hown1
  have HF := hid (Fill.of_block hcur (Nat.le_of_eq hcs.symm) zs)
  have HB : Hid (Below w.heap.size w w1) := ⟨hg1.os, hg1.tape, hg1.output, hg1.size, fun k hk => hg1.block k hk (by simp)⟩
  clear hown1 hg1 hcur hcs hi hz0 hz1 hz2
  go_loopw [4, 15] (fun vt vi wr => ∃ k : Nat, k ≤ zs.length ∧ vi = .int .i64 k ∧ vt = .int .i64 (zs.take k).sum ∧ Hid (Fill wr w.heap.size zs.length k zs) ∧ Hid (Below w.heap.size w wr)) (fun _ vi _ => zs.length - (intOf vi).toNat)
  case atStart => exact ⟨0, Nat.zero_le _, rfl, rfl, HF, HB⟩
  case round =>
    obtain ⟨k, hk, rfl, rfl, HF1, HB1⟩ := hrel
    clear HF HB
    have hsb := sum_bd (zs.take k) (fun z h => hz z (List.mem_of_mem_take h))
    have hlt' : (zs.take k).length ≤ k := List.length_take_le _ _
    by_cases hlt : k < zs.length
    · obtain ⟨x, rfl, hxb, hc⟩ := hv.fr HB1.out k hlt
      obtain ⟨⟨v0, hv0⟩, hf0⟩ := HF1.out.1 k hlt
      have hts : (zs.take (k + 1)).sum = (zs.take k).sum + zs.getD k 0 := by
        rw [List.take_succ_eq_append_getElem hlt, List.sum_append]; simp [hlt]
      have HT := hid hts
      have hzb := hz (zs.getD k 0) (by simp [hlt])
      obtain ⟨z, hzd⟩ : ∃ z, z = zs.getD k 0 := ⟨_, rfl⟩
      rw [← hzd] at hc hts hzb HT
      have HZ := hid hzd
      obtain ⟨S, hS⟩ : ∃ S, S = (zs.take k).sum := ⟨_, rfl⟩
      rw [← hS] at hsb HT ⊢
      clear hts hzd hS
      go_wp2
      go_roundw
      case rel =>
        refine ⟨k + 1, by omega, by go_num, by rw [HT.out], HF1.out.step hlt _ (by rw [← HZ.out]; rfl), below_setCell_new HB1.out k _⟩
      case measure => simp [intOf]; omega
    · obtain rfl : k = zs.length := by omega
      rw [List.take_length] at *
      have hfl : Fls wr (some ⟨w.heap.size, 0, none⟩) (zs.map enc) := by
        intro i hi
        rw [List.length_map] at hi
        refine ⟨_, rfl, ?_⟩
        have := HF1.out.2 i hi
        rw [Addr.add_lit]
        simpa [hi] using this
      have hS := sum_any (some ⟨w.heap.size, 0, none⟩) zs.length (zs.map enc) (by rw [List.length_map]; exact hl) wr hfl
      rw [List.length_map, fsum_enc zs 32768 (fun z h => by have := hz z h; omega) (by omega)] at hS
      go_wp2_with fail
      refine hS.mono ?_
      rintro e w2 ⟨b, q, rfl, hR, rfl⟩
      have hsb' : zs.sum.natAbs < 9007199254740992 := by omega
      have hb : b = enc zs.sum := by
        rcases hR with ⟨h1, _⟩ | ⟨h1, _⟩
        · cases h1; rfl
        · cases h1
      have hord : FloatKind.f64.format.order (floatOfInt .f64 zs.sum) (floatOfInt .f64 zs.sum) = some .eq := order_self (enc_notNaN zs.sum hsb')
      have hb2 : b = floatOfInt .f64 zs.sum := hb
      rw [hb2]
      clear hb hb2 hR hS hfl HF1
      go_wp2
      go_ret
      exact ⟨rfl, below_drewN HB1.out q⟩

end Go.Proofs.Ybulkuac
