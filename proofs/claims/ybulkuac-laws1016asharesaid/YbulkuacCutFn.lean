import Derived.Test.YbulkuacBuild
import Derived.Test.YbulkuacLeafD
import Derived.Test.YbulkuacLeafE
import Derived.Deep.RegionWith
import Derived.Deep.CutRange
namespace Go.Proofs.Ybulkuac
open Go.RowKit
set_option linter.unusedVariables false
attribute [local go_sem] run_store_float

/-- A row of places in the heap, none in the block b. -/
def Idx (w : World) (b : Nat) (a : Option Addr) (js : List Nat) : Prop :=
  ∀ i, i < js.length → ∃ x, a = some x ∧ x.block < w.heap.size ∧ x.block ≠ b ∧ w.cell? (x.add i) = some (.int .i64 (js.getD i 0))

abbrev Pbox (T D : Nat) : Obj := .cells #[.float .f64 T, .float .f64 D] 29
abbrev Sbox (S : Nat) : Obj := .cells #[.float .f64 S] 27

theorem St.fr {B : Nat} {w w' : World} {b n : Nat} {W S F : Nat → Nat} (h : St w b n W S F) (hb : b < B) (hB : Below B w w') : St w' b n W S F := by
  intro i hi
  rw [hB.cell (p := ⟨b, 3 * i, none⟩) hb, hB.cell (p := ⟨b, 3 * i + 1, none⟩) hb, hB.cell (p := ⟨b, 3 * i + 2, none⟩) hb]
  exact h i hi

theorem Room.fr {B : Nat} {w w' : World} {b N : Nat} (h : Room w b N) (hb : b < B) (hB : Below B w w') : Room w' b N := by
  intro i hi
  rw [hB.cell (p := ⟨b, i, none⟩) hb, hB.frozen (p := ⟨b, i, none⟩) hb]
  exact h i hi

theorem Idx.fr {w w' : World} {b : Nat} {a : Option Addr} {js : List Nat} (h : Idx w b a js) (hB : Only w.heap.size b w w') : Idx w' b a js := by
  intro i hi
  obtain ⟨x, rfl, h1, h2, h3⟩ := h i hi
  refine ⟨x, rfl, Nat.lt_of_lt_of_le h1 hB.size, h2, ?_⟩
  rw [hB.cell (by rw [add_block]; exact h1) (by rw [add_block]; exact h2)]
  exact h3

theorem take_mem_new {js : List Nat} (hnd : js.Nodup) {q : Nat} (hq : q < js.length) : js.getD q 0 ∉ js.take q := by
  have e : js.getD q 0 = js[q] := by simp [hq]
  rw [e]
  intro hm
  obtain ⟨i, hi, he⟩ := List.mem_take_iff_getElem.1 hm
  have h2 : i < js.length := by omega
  exact (List.pairwise_iff_getElem.1 hnd) i q h2 hq (by omega) he

theorem take_succ_mem {js : List Nat} {q : Nat} (hq : q < js.length) (i : Nat) : i ∈ js.take (q + 1) ↔ i ∈ js.take q ∨ i = js.getD q 0 := by
  rw [List.take_succ_eq_append_getElem hq, List.mem_append, List.mem_singleton]
  simp [hq]

theorem step_same {js : List Nat} {q j : Nat} (hm : ∀ i, i ∈ js.take (q + 1) ↔ i ∈ js.take q ∨ i = j) (g s : Nat → Nat) (hp : g j = s j) (i : Nat) :
    (if i ∈ js.take q then g i else s i) = (if i ∈ js.take (q + 1) then g i else s i) := by
  by_cases h : i ∈ js.take q
  · rw [if_pos h, if_pos ((hm i).2 (.inl h))]
  · rw [if_neg h]
    by_cases e : i = j
    · subst e; rw [if_pos ((hm i).2 (.inr rfl)), hp]
    · rw [if_neg]
      intro h2
      rcases (hm i).1 h2 with h3 | h3
      · exact h h3
      · exact e h3

theorem step_turn {js : List Nat} {q j x : Nat} (hm : ∀ i, i ∈ js.take (q + 1) ↔ i ∈ js.take q ∨ i = j) (g s : Nat → Nat) (hp : g j = x) (i : Nat) :
    (if i = j then x else if i ∈ js.take q then g i else s i) = (if i ∈ js.take (q + 1) then g i else s i) := by
  by_cases e : i = j
  · subst e; rw [if_pos rfl, if_pos ((hm i).2 (.inr rfl)), hp]
  · rw [if_neg e]
    by_cases h : i ∈ js.take q
    · rw [if_pos h, if_pos ((hm i).2 (.inl h))]
    · rw [if_neg h, if_neg]
      intro h2
      rcases (hm i).1 h2 with h3 | h3
      · exact h h3
      · exact e h3

theorem St.drewN {w : World} {b n : Nat} {W S F : Nat → Nat} (h : St w b n W S F) (m : Nat) : St (w.drewN m) b n W S F := h
theorem Room.drewN {w : World} {b N : Nat} (h : Room w b N) (m : Nat) : Room (w.drewN m) b N := h
theorem cell_drewN {w : World} {a : Addr} {v : Option Value} (h : w.cell? a = v) (m : Nat) : (w.drewN m).cell? a = v := h

/-- An arm's cut, way by way. -/
theorem arm_parts {S F s f : Nat} {p : Nat × Nat} (h : armB S F s f = some p) : ∃ r c t, shareB s f = some r ∧ cutB S r = some c ∧ maxO c F = some t ∧
    ((geB t r = true ∧ p = (s, f)) ∨ (geB t r = false ∧ ∃ F2 P N D kept, Ieee.double.add f twoB = some F2 ∧ Ieee.double.mul t F2 = some P ∧ Ieee.double.sub P oneB = some N ∧ Ieee.double.sub oneB t = some D ∧ Ieee.double.div N D = some kept ∧
      ((geB kept 0 = true ∧ p = (kept, f)) ∨ (geB kept 0 = false ∧ ∃ u f', Ieee.double.div oneB t = some u ∧ Ieee.double.sub u twoB = some f' ∧ p = (0, f'))))) := by
  unfold armB at h
  obtain ⟨r, hr, h⟩ := Option.bind_eq_some_iff.1 h
  obtain ⟨t, ht, h⟩ := Option.bind_eq_some_iff.1 h
  unfold targetB at ht
  obtain ⟨c, hc, ht⟩ := Option.bind_eq_some_iff.1 ht
  refine ⟨r, c, t, hr, hc, ht, ?_⟩
  cases hg : geB t r
  · right
    rw [hg, if_neg (by decide)] at h
    obtain ⟨kept, hk, h⟩ := Option.bind_eq_some_iff.1 h
    unfold keptB at hk
    obtain ⟨F2, h1, hk⟩ := Option.bind_eq_some_iff.1 hk
    obtain ⟨P, h2, hk⟩ := Option.bind_eq_some_iff.1 hk
    obtain ⟨N, h3, hk⟩ := Option.bind_eq_some_iff.1 hk
    obtain ⟨D, h4, hk⟩ := Option.bind_eq_some_iff.1 hk
    refine ⟨rfl, F2, P, N, D, kept, h1, h2, h3, h4, hk, ?_⟩
    cases hg2 : geB kept 0
    · right
      rw [hg2, if_neg (by decide)] at h
      obtain ⟨f', hf, h⟩ := Option.bind_eq_some_iff.1 h
      unfold failB at hf
      obtain ⟨u, h5, hf⟩ := Option.bind_eq_some_iff.1 hf
      exact ⟨rfl, u, f', h5, hf, (Option.some.inj h).symm⟩
    · left
      rw [hg2, if_pos rfl] at h
      exact ⟨rfl, (Option.some.inj h).symm⟩
  · left
    rw [hg, if_pos rfl] at h
    exact ⟨rfl, (Option.some.inj h).symm⟩

set_option maxHeartbeats 6400000 in
set_option maxRecDepth 100000 in
theorem cutfn_call {t d k : Nat} (R : RuleB t d k) (b n : Nat) (js : List Nat) (ai : Option Addr) (capi : Nat) (W s f : Nat → Nat) (arm : Nat → Nat × Nat)
    (hn : 3 * n ≤ 1024) (hjl : js.length ≤ 1024) (hj : ∀ j ∈ js, j < n) (hnd : js.Nodup)
    (harm : ∀ i, i < n → armB R.S1 R.F1 (s i) (f i) = some (arm i))
    (w : World) (hb : b < w.heap.size) (hst : St w b n W s f) (hr : Room w b (3 * n)) (hix : Idx w b ai js) :
    Calls Yba.prog 9 #[.agg #[.float .f64 R.T, .float .f64 R.D], .slice (some ⟨b, 0, none⟩) (3 * n) (3 * n), .slice ai js.length capi, .float .f64 R.f] w fun e w' => e = .returned (.tuple #[]) ∧ Only w.heap.size b w w' ∧
      St w' b n W (fun i => if i ∈ js then (arm i).1 else s i) (fun i => if i ∈ js then (arm i).2 else f i) := by
  have hlog := log_call R.f0 R.f1 R.hl1
  have g1 := run_mul R.hS1
  have ga := run_sub R.ha
  have gb := run_div R.hb
  have gc := run_add R.hc
  have gL := run_div R.hL1
  have hcl := closure_call R.hC1
  have hmx := max_call R.hF1
  have hneg : ∀ W, (Op.unary .neg (.float .f64 R.T)).run Yba.prog W = .ok (.float .f64 (Op.negFloat .f64 R.T)) W := fun W => rfl
  go_enter Yba.func9, Yba.ntmps9
  go_upto_region 1 with fail
  go_cut [8] from 17 to 22 (fun s8 wx => s8 = .pointer (some ⟨w.heap.size + 1, 0, none⟩) ∧ wx = ((w.alloc (Pbox R.T R.D)).alloc (Sbox R.S1)).drew)
  case first =>
    go_region_with (go_at_call 11; refine (hlog _).mono ?_; rintro e w' ⟨rfl, rfl⟩)
    all_goals (go_wp2_with fail; go_meet; exact ⟨rfl, rfl⟩)
  case rest =>
  obtain ⟨rfl, rfl⟩ := hcut
  go_wp2_with fail
  refine (hcl ⟨w.heap.size + 1, 0, none⟩ _ (by go_simp)).mono ?_
  rintro e w' ⟨rfl, rfl⟩
  go_wp2_with fail
  refine (hmx _).mono ?_
  rintro e w' ⟨rfl, rfl⟩
  have HO : Hid (Only w.heap.size b w ((w.alloc (Pbox R.T R.D)).alloc (Sbox R.S1)).drew) := Only.of_below (((Below.refl _ _).alloc (Nat.le_refl _) _).alloc (by simp) _).drew
  have HC : Hid (((w.alloc (Pbox R.T R.D)).alloc (Sbox R.S1)).drew.cell? ⟨w.heap.size + 1, 0, none⟩ = some (.float .f64 R.S1)) := by
    show World.cell? _ _ = _
    go_simp
  have HST : Hid (St ((w.alloc (Pbox R.T R.D)).alloc (Sbox R.S1)).drew b n W s f) := hst.fr hb (((Below.refl _ _).alloc (Nat.le_refl _) _).alloc (by simp) _).drew
  have HR : Hid (Room ((w.alloc (Pbox R.T R.D)).alloc (Sbox R.S1)).drew b (3 * n)) := hr.fr hb (((Below.refl _ _).alloc (Nat.le_refl _) _).alloc (by simp) _).drew
  have HIX := hid hix
  clear hst hr hix g1 ga gb gc gL hcl hmx hneg hlog
  generalize ((w.alloc (Pbox R.T R.D)).alloc (Sbox R.S1)).drew = v at *
  go_wp2_with fail
  go_loopw [35] (fun vi wr => ∃ q : Nat, q ≤ js.length ∧ vi = .int .i64 q ∧ Hid (St wr b n W (fun i => if i ∈ js.take q then (arm i).1 else s i) (fun i => if i ∈ js.take q then (arm i).2 else f i)) ∧ Hid (Room wr b (3 * n)) ∧ Hid (Only w.heap.size b w wr) ∧ Hid (wr.cell? ⟨w.heap.size + 1, 0, none⟩ = some (.float .f64 R.S1))) (fun vi _ => js.length - (intOf vi).toNat)
  case atStart => exact ⟨0, Nat.zero_le _, rfl, HST.out.congr (fun i _ => by simp) (fun i _ => by simp), HR, HO, HC⟩
  case round =>
    obtain ⟨q, hq, rfl, HST1, HR1, HO1, HC1⟩ := hrel
    clear HST HR HO HC
    by_cases hlt : q < js.length
    · obtain ⟨x, rfl, hx1, hx2, hc⟩ := (HIX.out.fr HO1.out) q hlt
      have hjn : js.getD q 0 < n := hj _ (by simp [hlt])
      have hnew := take_mem_new hnd hlt
      have HMem := hid (fun i => take_succ_mem hlt i)
      have hcl1 := HST1.out (js.getD q 0) hjn
      dsimp only at hcl1
      rw [if_neg hnew, if_neg hnew] at hcl1
      have harm1 := harm _ hjn
      obtain ⟨j, hjd⟩ : ∃ j, j = js.getD q 0 := ⟨_, rfl⟩
      rw [← hjd] at hc hjn hcl1 harm1 hnew HMem
      have HA := hid hcl1
      clear hjd
      obtain ⟨r, c, t0, h1, h2, h3, hways⟩ := arm_parts harm1
      obtain ⟨cw, cs, cf⟩ := hcl1
      have k1 := fun cp => share_call h1 b (3 * j) cp wr cs cf
      have k2 := closure_call h2
      have k3 := max_call h3
      have nj : ¬ 3 * n = 3 * j := by omega
      clear h1 h2 h3 harm1
      have e33 : 3 * j + 3 - 3 * j = 3 := by omega
      have HE := hid e33
      clear e33
      rcases hways with ⟨hg, hp⟩ | ⟨hg, F2, P, N, D, kept, h4, h5, h6, h7, h8, hways⟩
      · have HP := hid hp
        have hg' : (FloatKind.f64.format.order t0 r == some .gt || FloatKind.f64.format.order t0 r == some .eq) = true := hg
        clear hp hg
        go_wp2_with fail
        rw [HE.out]
        refine (k1 _).mono ?_
        rintro e w2 ⟨rfl, m, rfl⟩
        go_wp2_with fail
        refine (k2 ⟨w.heap.size + 1, 0, none⟩ _ (cell_drewN HC1.out m)).mono ?_
        rintro e w2 ⟨rfl, rfl⟩
        go_wp2_with fail
        refine (k3 _).mono ?_
        rintro e w2 ⟨rfl, rfl⟩
        go_wp2
        go_roundw
        case rel => exact ⟨q + 1, by omega, by go_num, (HST1.out.drewN m).congr (fun i _ => step_same HMem.out (fun i => (arm i).1) s (by rw [HP.out]) i) (fun i _ => step_same HMem.out (fun i => (arm i).2) f (by rw [HP.out]) i), HR1.out.drewN m, HO1.out.drewN m, cell_drewN HC1.out m⟩
        case measure => simp [intOf]; omega
      · have hg' : (FloatKind.f64.format.order t0 r == some .gt || FloatKind.f64.format.order t0 r == some .eq) = false := hg
        have o4 := run_add h4
        have o5 := run_mul h5
        have o6 := run_sub h6
        have o7 := run_sub h7
        have o8 := run_div h8
        obtain ⟨_, hf1⟩ := HR1.out (3 * j + 1) (by omega)
        obtain ⟨_, hf2⟩ := HR1.out (3 * j + 2) (by omega)
        clear hg h4 h5 h6 h7 h8
        rcases hways with ⟨hk, hp⟩ | ⟨hk, u, f', h9, h10, hp⟩
        · have HP := hid hp
          have hk' : (FloatKind.f64.format.order kept 0 == some .gt || FloatKind.f64.format.order kept 0 == some .eq) = true := hk
          clear hp hk
          go_wp2_with fail
          rw [HE.out]
          refine (k1 _).mono ?_
          rintro e w2 ⟨rfl, m, rfl⟩
          go_wp2_with fail
          refine (k2 ⟨w.heap.size + 1, 0, none⟩ _ (cell_drewN HC1.out m)).mono ?_
          rintro e w2 ⟨rfl, rfl⟩
          go_wp2_with fail
          refine (k3 _).mono ?_
          rintro e w2 ⟨rfl, rfl⟩
          go_wp2
          go_roundw
          case rel => exact ⟨q + 1, by omega, by go_num, ((HST1.out.drewN m).turn1 (HR1.out.drewN m) hjn).congr (fun i _ => step_turn HMem.out (fun i => (arm i).1) s (by rw [HP.out]) i) (fun i _ => step_same HMem.out (fun i => (arm i).2) f (by rw [HP.out]) i), (HR1.out.drewN m).set _ _, (HO1.out.drewN m).setCell _ _, by show World.cell? _ _ = _; rw [cell_set_far (by simp; omega)]; exact cell_drewN HC1.out m⟩
          case measure => simp [intOf]; omega
        · have HP := hid hp
          have hk' : (FloatKind.f64.format.order kept 0 == some .gt || FloatKind.f64.format.order kept 0 == some .eq) = false := hk
          have o9 := run_div h9
          have o10 := run_sub h10
          clear hp hk h9 h10
          go_wp2_with fail
          rw [HE.out]
          refine (k1 _).mono ?_
          rintro e w2 ⟨rfl, m, rfl⟩
          go_wp2_with fail
          refine (k2 ⟨w.heap.size + 1, 0, none⟩ _ (cell_drewN HC1.out m)).mono ?_
          rintro e w2 ⟨rfl, rfl⟩
          go_wp2_with fail
          refine (k3 _).mono ?_
          rintro e w2 ⟨rfl, rfl⟩
          go_wp2
          go_roundw
          case rel => exact ⟨q + 1, by omega, by go_num, (((HST1.out.drewN m).turn1 (HR1.out.drewN m) hjn).turn2 ((HR1.out.drewN m).set _ _) hjn).congr (fun i _ => step_turn HMem.out (fun i => (arm i).1) s (by rw [HP.out]) i) (fun i _ => step_turn HMem.out (fun i => (arm i).2) f (by rw [HP.out]) i), ((HR1.out.drewN m).set _ _).set _ _, ((HO1.out.drewN m).setCell _ _).setCell _ _, by show World.cell? _ _ = _; rw [cell_set_far (by simp; omega), cell_set_far (by simp; omega)]; exact cell_drewN HC1.out m⟩
          case measure => simp [intOf]; omega
    · obtain rfl : q = js.length := by omega
      go_wp2
      go_end0
      exact ⟨rfl, HO1.out, HST1.out.congr (fun i _ => by rw [List.take_length]) (fun i _ => by rw [List.take_length])⟩

end Go.Proofs.Ybulkuac
