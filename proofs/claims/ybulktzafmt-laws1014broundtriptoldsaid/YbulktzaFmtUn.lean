import Derived.Test.YbulktzaFmtNew
import Derived.Deep.RegionWith
namespace Go.Proofs.YbulktzaFmt
open Go.RowKit
set_option linter.unusedVariables false

/-- Every old block but those in S reads as it did. -/
structure Kp (S : Nat → Prop) (w w' : World) : Prop where
  os : w'.os = w.os
  tape : w'.tape = w.tape
  output : w'.output = w.output
  size : w.heap.size ≤ w'.heap.size
  block : ∀ k, k < w.heap.size → ¬ S k → w'.heap[k]? = w.heap[k]?

theorem Kp.of {S : Nat → Prop} {w w' : World} {row : Option Nat} (h : w.grownBy w' row) (hr : ∀ k, some k = row → S k) : Kp S w w' :=
  ⟨h.os, h.tape, h.output, h.size, fun k hk hs => h.block k hk (fun e => hs (hr k e))⟩

theorem Kp.trans {S : Nat → Prop} {a b c : World} (h : Kp S a b) (k : Kp S b c) : Kp S a c :=
  ⟨k.os.trans h.os, k.tape.trans h.tape, k.output.trans h.output, Nat.le_trans h.size k.size, fun i hi hr => (k.block i (Nat.lt_of_lt_of_le hi h.size) hr).trans (h.block i hi hr)⟩

theorem Kp.setCell {S : Nat → Prop} {w w2 : World} (h : Kp S w w2) (a : Addr) (ha : S a.block) (u : Value) : Kp S w (w2.setCell a u) :=
  ⟨h.os, h.tape, h.output, by simp [World.setCell]; exact h.size, fun k hk hs => (Below.heap_setCell w2 a u k (fun e => hs (by rw [e]; exact ha))).trans (h.block k hk hs)⟩

set_option maxHeartbeats 3200000 in
set_option maxRecDepth 100000 in
theorem un_any (t g o n c x : Nat) (hx : x < 18446744073709551616) (zs : List Nat) (hz : ∀ z ∈ zs, z < 18446744073709551616) (hzl : zs.length ≤ 1024) (hn : n = (Lib.uvarint x).length + ((Lib.uvarint zs.length).length + (vars zs).length)) (hnc : n ≤ c) (hm : c ≤ maxLen) (w : World) (hg : g < w.heap.size) (hl : Lies w g o (Lib.uvarint x ++ (Lib.uvarint zs.length ++ vars zs)))
    (ia : Option Addr) (il ic : Nat) (hgt : g ≠ t) (ht : w.heap[t]? = some (.cells #[.int .u64 7, .slice ia il ic] 29 (0, 0)))
    (row : Option Nat) (hrow : some t ≠ row) (Post : Option Addr → Nat → Nat → World → Prop)
    (hD : ∀ o1 c1 wx, Lies wx g o1 (vars zs) → (vars zs).length ≤ c1 → c1 ≤ maxLen → w.grownBy wx none →
      Calls Ybaf.prog 18 #[.agg #[.int .i64 zs.length, .slice (some ⟨g, o1, none⟩) (vars zs).length c1], .slice ia il ic] wx fun e w' => ∃ a l cp, e = .returned (.slice a l cp) ∧ Post a l cp w' ∧ wx.grownBy w' row) :
    Calls Ybaf.prog 9 #[.pointer (some ⟨t, 0, none⟩), .slice (some ⟨g, o, none⟩) n c] w fun e w' => e = .returned .nilIface ∧ ∃ a l cp w2, Post a l cp w2 ∧ w'.cell? ⟨t, 0, none⟩ = some (.int .u64 x) ∧ w'.cell? ⟨t, 1, none⟩ = some (.slice a l cp) ∧ Kp (fun k => k = t) w2 w' ∧ Kp (fun k => k = t ∨ some k = row) w w' := by
  have hT := ts_any g o n c x hx zs hz hzl hn hnc hm w hg hl
  have HN := hid hn
  have htl : t < w.heap.size := (Array.getElem?_eq_some_iff.1 ht).1
  have HD := hid hD
  have HT := hid ht
  clear hn hl hD ht
  go_enter Ybaf.func9, Ybaf.ntmps9
  go_wp2_with fail
  refine hT.mono ?_
  rintro e w1 ⟨o1, c1, rfl, hlies, hMc, hcm, hgb⟩
  obtain ⟨M, hM⟩ : ∃ M, M = (vars zs).length := ⟨_, rfl⟩
  rw [← hM] at hMc ⊢
  have ht1 : w1.heap[t]? = some (.cells #[.int .u64 7, .slice ia il ic] 29 (0, 0)) := (hgb.block t htl (by simp)).trans HT.out
  have HDc : Hid (∀ wx : World, wx.heap = (w1.alloc (Obj.cells #[Value.int IntKind.i64 zs.length, Value.slice (some ⟨g, o1, none⟩) M c1] 49)).heap → wx.os = w1.os → wx.tape = w1.tape → wx.output = w1.output →
      Calls Ybaf.prog 18 #[.agg #[.int .i64 zs.length, .slice (some ⟨g, o1, none⟩) M c1], .slice ia il ic] wx fun e w' => ∃ a l cp, e = .returned (.slice a l cp) ∧ Post a l cp w' ∧ Kp (fun k => some k = row) w w' ∧ w'.heap[t]? = some (.cells #[.int .u64 7, .slice ia il ic] 29 (0, 0)) ∧ w'.cell? ⟨t, 0, none⟩ = some (.int .u64 7) ∧ w'.cell? ⟨t, 1, none⟩ = some (.slice ia il ic) ∧ w'.frozen? ⟨t, 0, none⟩ = false ∧ w'.frozen? ⟨t, 1, none⟩ = false ∧ w1.heap.size < w'.heap.size) := by
    intro wx hh ho hta hp
    have hgx : g < w1.heap.size := Nat.lt_of_lt_of_le hg hgb.size
    have htx : t < w1.heap.size := Nat.lt_of_lt_of_le htl hgb.size
    have hgwx : w.grownBy wx none := ⟨ho.trans hgb.os, hta.trans hgb.tape, hp.trans hgb.output, by rw [hh]; have := hgb.size; simp; omega, fun k hk hr => by rw [hh]; exact (Below.heap_alloc w1 _ k (Nat.lt_of_lt_of_le hk hgb.size)).trans (hgb.block k hk hr)⟩
    have hlx : Lies wx g o1 (vars zs) := hlies.same (by rw [hh]; exact Below.heap_alloc w1 _ g hgx)
    have htw : wx.heap[t]? = some (.cells #[.int .u64 7, .slice ia il ic] 29 (0, 0)) := by rw [hh]; exact (Below.heap_alloc w1 _ t htx).trans ht1
    have hsx : wx.heap.size = w1.heap.size + 1 := by rw [hh]; simp
    have h18 := HD.out o1 c1 wx hlx (by omega) hcm hgwx
    rw [← hM] at h18
    refine h18.mono ?_
    rintro e w2 ⟨a, l, cp, rfl, hP, hg2⟩
    have hb2 : w2.heap[t]? = some (.cells #[.int .u64 7, .slice ia il ic] 29 (0, 0)) := (hg2.block t (by omega) hrow).trans htw
    have q0 := blk_cells hb2 0 _ rfl
    have q1 := blk_cells hb2 1 _ rfl
    exact ⟨a, l, cp, rfl, hP, (Kp.of hgwx (fun k hk => by cases hk)).trans (Kp.of hg2 (fun k hk => hk)), hb2, q0.1, q1.1, q0.2, q1.2, by have := hg2.size; omega⟩
  have q0 := blk_cells ht1 0 _ rfl
  have q1 := blk_cells ht1 1 _ rfl
  have htx : t < w1.heap.size := Nat.lt_of_lt_of_le htl hgb.size
  obtain ⟨hc0, hf0⟩ := q0
  obtain ⟨hc1, hf1⟩ := q1
  clear ht1 hlies hM HD HT HN hT hMc hcm
  go_wp2_with fail
  go_region_with (go_at_call 18; refine (HDc.out _ (by rfl) (by rfl) (by rfl) (by rfl)).mono ?_; rintro e w2 ⟨a, l, cp, rfl, hP, hK, hb2, hc0', hc1', hf0', hf1', hs2⟩)
  all_goals
    go_wp2
    go_ret
    have hw0 : ((w2.setCell ⟨t, 0, none⟩ (Value.int IntKind.u64 x)).setCell ⟨t, 1, none⟩ (Value.slice a l cp)).cell? ⟨t, 0, none⟩ = some (Value.int IntKind.u64 x) := by
      rw [World.cell?_setCell_other _ _ _ _ (by intro h; have := congrArg Addr.off h; simp at this)]
      exact World.cell?_setCell_same _ _ _ hc0'
    have hw1 : ((w2.setCell ⟨t, 0, none⟩ (Value.int IntKind.u64 x)).setCell ⟨t, 1, none⟩ (Value.slice a l cp)).cell? ⟨t, 1, none⟩ = some (Value.slice a l cp) := by
      refine World.cell?_setCell_same _ _ _ (u := Value.slice ia il ic) ?_
      rw [World.cell?_setCell_other _ _ _ _ (by intro h; have := congrArg Addr.off h; simp at this)]
      exact hc1'
    have hk2 : Kp (fun k => k = t) w2 ((w2.setCell ⟨t, 0, none⟩ (Value.int IntKind.u64 x)).setCell ⟨t, 1, none⟩ (Value.slice a l cp)) :=
      Kp.setCell (S := fun k => k = t) (Kp.setCell (S := fun k => k = t) (w := w2) ⟨rfl, rfl, rfl, Nat.le_refl _, fun _ _ _ => rfl⟩ ⟨t, 0, none⟩ rfl _) ⟨t, 1, none⟩ rfl _
    have hk1 : Kp (fun k => k = t ∨ some k = row) w ((w2.setCell ⟨t, 0, none⟩ (Value.int IntKind.u64 x)).setCell ⟨t, 1, none⟩ (Value.slice a l cp)) :=
      Kp.setCell (S := fun k => k = t ∨ some k = row) (Kp.setCell (S := fun k => k = t ∨ some k = row) (w := w) ⟨hK.os, hK.tape, hK.output, hK.size, fun k hk hs => hK.block k hk (fun e => hs (Or.inr e))⟩ ⟨t, 0, none⟩ (Or.inl rfl) _) ⟨t, 1, none⟩ (Or.inl rfl) _
    exact ⟨rfl, a, l, cp, w2, hP, hw0, hw1, hk2, hk1⟩

end Go.Proofs.YbulktzaFmt
