import Derived.Test.YbulktzaFmtEnc
namespace Go.Proofs.YbulktzaFmt
open Go.RowKit
set_option linter.unusedVariables false

theorem info22c : (Ybaf.prog.info? 22).map (fun i => (i.zero, i.size, i.bytes)) = some (some (.int .u64 0), 1, 8) := by kernel_rfl
theorem size22 : (Ybaf.prog.info? 22).map (·.size) = some 1 := by kernel_rfl

theorem copy_nil (w : World) : Calls Ybaf.prog 8 #[.slice none 0 0] w fun e w' => e = .returned (.slice none 0 0) ∧ w' = w := by
  have hq := fun W => Lib.run_eql_slice_nil (P := Ybaf.prog) W 23 22 none 0 0 0 0 Ybaf.underlying23
  go_enter Ybaf.func8, Ybaf.ntmps8
  go_wp2
  go_ret
  exact ⟨rfl, rfl⟩

theorem own_block {w : World} {B g n : Nat} {xs : List Value} (h : w.ownsRow B 22 1 (.slice (some ⟨g, 0, none⟩) n n) n xs) : ∃ cur, w.heap[g]? = some (.cells cur 22 (0, 0)) ∧ cur.size = n := by
  rcases h.2 with ⟨h, _⟩ | ⟨g', cap, cur, h, _, hh, h3, _, h5, _⟩
  · simp at h
  · simp at h
    obtain ⟨⟨rfl⟩, rfl⟩ := h
    exact ⟨cur, hh, by omega⟩

theorem src_cells {w w1 : World} {ad : Addr} {zs : List Nat} (hv : Vec w.heap.size w (some ad) zs) (hg1 : w.grownBy w1 none) : ∀ j v, (zs.map fun z => Value.int .u64 ((z : Nat) : Int))[j]? = some v → w1.cell? (ad.add j) = some v := by
  intro j v hj
  have hjl : j < zs.length := by
    have := (List.getElem?_eq_some_iff.1 hj).1
    simpa using this
  have hb : Below w.heap.size w w1 := ⟨hg1.os, hg1.tape, hg1.output, hg1.size, fun k hk => hg1.block k hk (by simp)⟩
  obtain ⟨x, hx, _, hc⟩ := hv.fr hb j hjl
  cases hx
  rw [hc, ← hj]
  simp [hjl]

theorem setRow_facts {w w1 : World} {cur arr : Array Value} {n : Nat} (hcur : w1.heap[w.heap.size]? = some (.cells cur 22 (0, 0))) (hg1 : w.grownBy w1 none) (hn : arr.size = n) :
    ∃ cur', (w1.setRow w.heap.size arr).heap[w.heap.size]? = some (.cells cur' 22 (0, 0)) ∧ cur'.size = n ∧ w.grownBy (w1.setRow w.heap.size arr) none :=
  ⟨arr, setRow_heap w1 w.heap.size cur arr 22 (0, 0) hcur, hn, ⟨hg1.os, hg1.tape, hg1.output, by have := hg1.size; simpa using this, fun k hk hr => (setRow_other w1 w.heap.size k arr (by omega)).trans (hg1.block k hk hr)⟩⟩

set_option maxHeartbeats 1600000 in
set_option maxRecDepth 100000 in
theorem copy_some (ad : Addr) (cap : Nat) (zs : List Nat) (hzl : zs.length ≤ 1024) (w : World) (hv : Vec w.heap.size w (some ad) zs) :
    Calls Ybaf.prog 8 #[.slice (some ad) zs.length cap] w fun e w' => e = .returned (.slice (some ⟨w.heap.size, 0, none⟩) zs.length zs.length) ∧ ∃ cur, w'.heap[w.heap.size]? = some (.cells cur 22 (0, 0)) ∧ cur.size = zs.length ∧ w.grownBy w' none := by
  obtain ⟨i0, hi, hz0', hz1, hz2⟩ := info_parts info22c
  have hq := fun W => Lib.run_eql_slice_nil (P := Ybaf.prog) W 23 22 (some ad) zs.length cap 0 0 Ybaf.underlying23
  go_enter Ybaf.func8, Ybaf.ntmps8
  go_wp2_with (first | (at_make; refine wpList_make_full _ rfl _ _ 23 rfl w.heap.size 22 i0 (.int .u64 0) 1 Ybaf.underlying23 hi hz0' hz1 .i64 .i64 _ _ zs.length rfl rfl rfl rfl (by rw [hz2]; omega) (by unfold maxLen; omega) (by simp) ?_; intro w1 hown1 hg1; obtain ⟨cur, hcur, hcs⟩ := own_block hown1; have hsr := src_cells hv hg1) | (have _t := hcur; refine wpList_copy_own rfl _ _ 23 23 rfl 22 Ybaf.underlying23 size22 w.heap.size 0 zs.length zs.length ad zs.length cap rfl rfl cur 22 hcur (zs.map fun z => Value.int .u64 ((z : Nat) : Int)) ?k1 hsr ?k2 ?k3 ?_))
  case k1 => simp
  case k2 => simp; omega
  case k3 => intro v hv'; simp at hv'; obtain ⟨z, _, rfl⟩ := hv'; rfl
  · go_ret
    refine ⟨rfl, setRow_facts hcur hg1 ?_⟩
    simp
    omega

end Go.Proofs.YbulktzaFmt
