import Derived.Test.YbulkuacLawA
import Derived.Deep.CutBlock
namespace Go.Proofs.Ybulkuac
open Go.RowKit
set_option linter.unusedVariables false
attribute [local go_sem] run_store_float

theorem info3 : (Yba.prog.info? 3).map (fun i => (i.zero, i.size, i.bytes)) = some (some (.int .i64 0), 1, 8) := by kernel_rfl

/-- The arms that are to be cut, among the first q. -/
def cutsOf (cb : List Bool) (q : Nat) : List Nat := (List.range q).filter fun i => cb.getD i false
def intCells (js : List Nat) : List Value := js.map fun j => Value.int .i64 ((j : Nat) : Int)

theorem cutsOf_succ (cb : List Bool) (q : Nat) : cutsOf cb (q + 1) = cutsOf cb q ++ (if cb.getD q false then [q] else []) := by
  unfold cutsOf
  rw [List.range_succ, List.filter_append]
  congr 1
  rw [List.filter_cons]
  rfl

theorem cutsOf_len (cb : List Bool) (q : Nat) : (cutsOf cb q).length ≤ q := by
  unfold cutsOf
  exact Nat.le_trans (List.length_filter_le _ _) (by simp)

theorem cutsOf_mem {cb : List Bool} {q i : Nat} : i ∈ cutsOf cb q ↔ i < q ∧ cb.getD i false = true := by
  unfold cutsOf
  rw [List.mem_filter, List.mem_range]

theorem cutsOf_nodup (cb : List Bool) (q : Nat) : (cutsOf cb q).Nodup := List.nodup_range.filter _

theorem intCells_snoc (js : List Nat) (q : Nat) : intCells (js ++ [q]) = intCells js ++ [Value.int .i64 ((q : Nat) : Int)] := by
  unfold intCells; rw [List.map_append]; rfl

theorem heap_alloc_at (w : World) (o : Obj) : (w.alloc o).heap[w.heap.size]? = some o := by
  show (w.heap.push o)[w.heap.size]? = some o
  simp

theorem own_zero (w : World) : (w.alloc (.cells #[] 3)).ownsRow w.heap.size 3 1 (.slice (some ⟨w.heap.size, 0, none⟩) 0 0) 0 [] :=
  ⟨rfl, .inr ⟨w.heap.size, 0, #[], rfl, Nat.le_refl _, heap_alloc_at w _, Nat.le_refl _, Nat.zero_le _, rfl, rfl⟩⟩

/-- The row of places, seen as a slice. -/
theorem own_slice {w : World} {B : Nat} {v : Value} {js : List Nat} (h : w.ownsRow B 3 1 v js.length (intCells js)) :
    ∃ ai ci, v = .slice ai js.length ci ∧ ∀ i, i < js.length → ∃ x, ai = some x ∧ B ≤ x.block ∧ x.block < w.heap.size ∧ w.cell? (x.add i) = some (.int .i64 ((js.getD i 0 : Nat) : Int)) := by
  rcases h.2 with ⟨hv, h0⟩ | ⟨g, capi, cur, hv, hB, hh, h3, h4, h5, h6⟩
  · refine ⟨none, 0, ?_, fun i hi => by omega⟩
    rw [h0]; exact hv
  · refine ⟨_, capi, hv, fun i hi => ⟨_, rfl, hB, ?_, ?_⟩⟩
    · rcases Nat.lt_or_ge g w.heap.size with h7 | h7
      · exact h7
      · rw [Array.getElem?_eq_none h7] at hh; cases hh
    · rw [Addr.add_lit, cell_of_row w g _ cur 3 (0, 0) hh, ← Array.getElem?_toList]
      have e : (cur.toList.take (js.length * 1))[i]? = (intCells js)[i]? := by rw [h6]
      rw [List.getElem?_take_of_lt (by omega)] at e
      rw [Nat.zero_add, e]
      unfold intCells
      simp [hi]

theorem St.only {B b g : Nat} {w w' : World} {n : Nat} {W S F : Nat → Nat} (h : St w g n W S F) (hg : g < B) (hb : g ≠ b) (hB : Only B b w w') : St w' g n W S F := by
  intro i hi
  rw [hB.cell (p := ⟨g, 3 * i, none⟩) hg hb, hB.cell (p := ⟨g, 3 * i + 1, none⟩) hg hb, hB.cell (p := ⟨g, 3 * i + 2, none⟩) hg hb]
  exact h i hi

theorem index_at (W : World) (g n q j : Nat) (hq : q < n) (hj : j < 3) :
    (Instr.indexAt 23 (.slice (some ⟨g, 0, none⟩) (3 * n) (3 * n)) (.int .i64 (3 * (q : Int) + (j : Nat)))).run Yba.prog W = .ok (.pointer (some ⟨g, 3 * q + j, none⟩)) W := by
  have h := run_indexAt_slice (P := Yba.prog) (w := W) 23 ⟨g, 0, none⟩ (3 * n) (3 * n) .i64 (3 * (q : Int) + (j : Nat)) (by kernel_rfl)
  rw [h, if_pos (by omega)]
  have e : (3 * (q : Int) + (j : Nat)).toNat = 3 * q + j := by omega
  rw [e]
  have hs : (sizeOf (Yba.prog.elem 23)).run Yba.prog W = .ok 1 W := by
    have he : Yba.prog.elem 23 = 27 := by kernel_rfl
    rw [he]
    go_simp
  rw [hs]
  show Result.ok (Value.pointer (some (Addr.add ⟨g, 0, none⟩ ((3 * q + j) * 1)))) W = _
  rw [Addr.add_lit, Nat.mul_one, Nat.zero_add]

theorem want_parts {S F r w : Nat} (h : wantB S F r = some w) : ∃ a b, Ieee.double.sub r S = some a ∧ Ieee.double.div r twoB = some b ∧ minO (max3B a b F) r = some w := by
  unfold wantB at h
  simp only [Option.bind_eq_bind, Option.bind_eq_some_iff] at h
  obtain ⟨n, h1, k, h2, h4⟩ := h
  exact ⟨n, k, h1, h2, h4⟩

def armF {t d k : Nat} (R : RuleB t d k) (ds : List Nat) (i : Nat) : Nat × Nat := (armB R.S1 R.F1 (suF ds i) (faF ds i)).getD (0, 0)

theorem suF_val (ds : List Nat) (i : Nat) : ∃ v, Vl (suF ds i) v ∧ 0 ≤ v ∧ v ≤ 16 := by
  obtain ⟨e, v, he, h1, h2, h3⟩ := ev_val (n := ds.getD (3 * i + 1) 0 % 64) (Nat.mod_lt _ (by decide))
  refine ⟨v, ?_, h2, h3⟩
  unfold suF; rw [he]; exact h1

theorem faF_val (ds : List Nat) (i : Nat) : ∃ v, Vl (faF ds i) v ∧ 0 ≤ v ∧ v ≤ 16 := by
  obtain ⟨e, v, he, h1, h2, h3⟩ := ev_val (n := ds.getD (3 * i + 2) 0 % 64) (Nat.mod_lt _ (by decide))
  refine ⟨v, ?_, h2, h3⟩
  unfold faF; rw [he]; exact h1

/-- What the law's last loop needs of one arm. -/
theorem arm_facts {t d k : Nat} (R : RuleB t d k) (ds : List Nat) (i : Nat) :
    armB R.S1 R.F1 (suF ds i) (faF ds i) = some (armF R ds i) ∧ ∃ r got want, shareB (suF ds i) (faF ds i) = some r ∧ shareB (armF R ds i).1 (armF R ds i).2 = some got ∧
      wantB R.S2 (max3B R.p R.h minB) r = some want ∧ Okd got want ∧ Okd r r := by
  obtain ⟨a, ha, a0, a1⟩ := suF_val ds i
  obtain ⟨b, hb, b0, b1⟩ := faF_val ds i
  obtain ⟨s', f', r, got, want, h1, h2, h3, h4, h5⟩ := R.arm ha hb a0 a1 b0 b1
  have e : armF R ds i = (s', f') := by unfold armF; rw [h1]; rfl
  rw [e]
  refine ⟨h1, r, got, want, h2, h3, h4, h5, ?_⟩
  obtain ⟨r', ρ, e1, hr, _, _⟩ := share_val ha hb (by grind) a1 (by grind) b1
  rw [h2] at e1
  cases e1
  exact okd_of hr hr (by grind) (by grind)

set_option maxHeartbeats 6400000 in
set_option maxRecDepth 100000 in
theorem law_short (a ac : Option Addr) (cap capc : Nat) (ds : List Nat) (cb : List Bool) (n : Nat) (hn1 : 3 * n ≤ ds.length) (hn2 : ds.length < 3 * n + 3) (hl : ds.length ≤ 1024) (hcl : cb.length ≤ 1024)
    (hz : ∀ z ∈ ds, z < 256) (t d k : Nat) (ht : t < 256) (hd : d < 256) (hk : k < 256) (w : World) (hv : Bts w.heap.size w a ds) (hc : Bls w.heap.size w ac cb) :
    Calls Yba.prog 4 #[.slice a ds.length cap, .slice ac cb.length capc, .int .u8 t, .int .u8 d, .int .u8 k] w fun e w' => e = .returned (.bool true) ∧ Below w.heap.size w w' := by
  obtain ⟨R⟩ := rule_ex (t := t % 50) (d := d % 101) (k := k % 99) (Nat.mod_lt _ (by decide)) (Nat.mod_lt _ (by decide)) (Nat.mod_lt _ (by decide))
  obtain ⟨i0, hi, hz0, hz1, hz2⟩ := info_parts info27
  obtain ⟨i3, hi3, hz30, hz31, hz32⟩ := info_parts info3
  have hbuild := build_call a cap ds n hn1 hn2 hl hz w hv
  go_enter Yba.func4, Yba.ntmps4
  go_wp2_with fail
  refine hbuild.mono ?_
  rintro e w1 ⟨rfl, hst1, hr1, hb1, hs1⟩
  clear hbuild
  go_upto_block 0 with (first | (at_make; refine wpList_make_full _ rfl _ _ 23 rfl w1.heap.size 27 i0 (.float .f64 0) 1 Yba.underlying23 hi hz0 hz1 .i64 .i64 _ _ (3 * n) rfl rfl (by omega) (by omega) (by rw [hz2]; omega) (by unfold maxLen; omega) (by simp) ?_; intro w2 hown2 hg2; obtain ⟨cur, hcur, hcs⟩ := own_block hown2; have hsr := src_flat (hst1.fr hs1 ⟨hg2.os, hg2.tape, hg2.output, hg2.size, fun k hk => hg2.block k hk (by simp)⟩)) | (have _t := hcur; refine wpList_copy_own rfl _ _ 23 23 rfl 27 Yba.underlying23 size27 w1.heap.size 0 (3 * n) (3 * n) ⟨w.heap.size, 0, none⟩ (3 * n) (3 * n) rfl rfl cur 27 hcur (flatCells (wtF ds) (suF ds) (faF ds) n) ?k1 hsr ?k2 ?k3 ?_))
  case k1 => rw [flatCells_length]; simp
  case k2 => rw [flatCells_length]; omega
  case k3 => intro v hv'; simp [flatCells] at hv'; obtain ⟨z, _, rfl⟩ := hv'; rfl
  obtain ⟨w3, hw3, hst3, hr3, hso3, hb3, hs3, hz3⟩ := copied' hs1 hst1 hr1 hg2 hcur hcs
  rw [← hw3, ← hz3]
  have HST := hid hst3
  have HR := hid hr3
  have HSO := hid hso3
  have HB : Hid (Below w.heap.size w w3) := hb1.trans (hb3.mono (Nat.le_of_lt hs1))
  have HS := hid hs1
  have HS3 := hid hs3
  clear hw3 hz3 hst3 hr3 hso3 hb3 hs3 hst1 hr1 hb1 hs1 hown2 hg2 hcur hcs hsr _t hi hz0 hz1 hz2
  generalize w1.heap.size = B2 at *
  go_cut [14, 15] from 45 to 63 (fun vidx vi wx => wx.ownsRow w3.heap.size 3 1 vidx (cutsOf cb (min n cb.length)).length (intCells (cutsOf cb (min n cb.length))) ∧ Below w3.heap.size w3 wx)
  case first =>
    go_wp2_with fail
    go_loopw [14, 15] (fun vidx vi wr => ∃ q : Nat, q ≤ n ∧ q ≤ cb.length ∧ vi = .int .i64 q ∧ Hid (wr.ownsRow w3.heap.size 3 1 vidx (cutsOf cb q).length (intCells (cutsOf cb q))) ∧ Hid (Below w3.heap.size w3 wr)) (fun _ vi _ => n - (intOf vi).toNat)
    case atStart => exact ⟨0, Nat.zero_le _, Nat.zero_le _, rfl, own_zero w3, (Below.refl _ _).alloc (Nat.le_refl _) _⟩
    case round =>
      obtain ⟨q, hq1, hq2, rfl, HOW, HBW⟩ := hrel
      have HMN : Hid (w.heap.size ≤ w3.heap.size) := by
        have h1 := HS.out
        have h2 := HS3.out
        show _ ≤ _
        omega
      by_cases hlt1 : q < n
      · by_cases hlt2 : q < cb.length
        · obtain ⟨x, rfl, hxb, hcx⟩ := (hc.fr (HB.out.trans (HBW.out.mono HMN.out))) q hlt2
          have hqs := cutsOf_succ cb q
          have hql := cutsOf_len cb q
          cases hbq : cb.getD q false
          · rw [hbq] at hcx
            have HQ : Hid (cutsOf cb (q + 1) = cutsOf cb q) := by
              rw [hbq, if_neg (by decide), List.append_nil] at hqs; exact hqs
            clear hqs hbq
            go_wp2
            go_roundw
            case rel =>
              refine ⟨q + 1, by omega, by omega, by go_num, ?_, HBW⟩
              rw [HQ.out]
              exact HOW
            case measure => simp [intOf]; omega
          · rw [hbq] at hcx
            have HQ : Hid (cutsOf cb (q + 1) = cutsOf cb q ++ [q]) := by
              rw [hbq, if_pos rfl] at hqs; exact hqs
            clear hqs hbq
            have hown1 := HOW.out
            go_wp2_with (at_builtin; refine wpList_append_own _ rfl _ _ 26 rfl w3.heap.size 3 i3 (.int .i64 0) 1 8 Yba.underlying26 hi3 hz30 hz31 hz32 rfl (by decide) _ _ _ rfl (hown1.alloc _) ⟨wr.heap.size, 0, none⟩ 1 1 [Value.int .i64 (q : Int)] rfl rfl ?c1 ?c2 ?c3 ?c4 ?c5 ?_)
            case c1 =>
              intro j u hj
              match j, hj with
              | 0, hj => simp at hj; subst hj; simp [Addr.add]
            case c2 => intro u hu; simp at hu; subst hu; rfl
            case c3 => unfold maxLen; omega
            case c4 => omega
            case c5 => have := HBW.out.size; simp; omega
            intro v' w4 hown' hgrow _
            have HBN : Hid (Below w3.heap.size w3 w4) := (HBW.out.alloc (by have := HBW.out.size; omega) _).grown hgrow (by have := HBW.out.size; simp; omega) (fun k hk => (hown1.lt k hk).1)
            go_wp2
            go_roundw
            case rel =>
              refine ⟨q + 1, by omega, by omega, by go_num, ?_, HBN⟩
              rw [HQ.out, intCells_snoc, List.length_append, List.length_singleton]
              exact hown'
            case measure => simp [intOf]; omega
        · have e : min n cb.length = q := by omega
          have HE := hid e
          clear e
          go_wp2
          go_meet
          rw [HE.out]
          exact ⟨HOW.out, HBW.out⟩
      · have e : min n cb.length = q := by omega
        have HE := hid e
        clear e
        go_wp2
        go_meet
        rw [HE.out]
        exact ⟨HOW.out, HBW.out⟩
  case rest =>
    obtain ⟨hown, hbw⟩ := hcut
    obtain ⟨ai, ci, rfl, hix⟩ := own_slice hown
    clear hown
    have hjl := cutsOf_len cb (min n cb.length)
    have HJM : Hid (∀ i, i ∈ cutsOf cb (min n cb.length) ↔ i < min n cb.length ∧ cb.getD i false = true) := fun i => cutsOf_mem
    have HJN := hid (cutsOf_nodup cb (min n cb.length))
    generalize cutsOf cb (min n cb.length) = js at *
    have hB3 : w.heap.size < w3.heap.size := Nat.lt_trans HS.out HS3.out
    have hst4 := HST.out.fr hB3 hbw
    have hr4 := HR.out.fr hB3 hbw
    have hso4 := HSO.out.fr HS3.out hbw
    have hb4 := HB.out.trans (hbw.mono (Nat.le_of_lt hB3))
    have hrule := fun W => rule_call ht hd hk R W
    go_wp2_with fail
    refine (hrule _).mono ?_
    rintro e w5 ⟨rfl, hb5⟩
    have hsz5 := hb5.size
    have hB5 : w.heap.size < wc.heap.size := Nat.lt_of_lt_of_le hB3 hbw.size
    have HST5 := hid (hst4.fr hB5 hb5)
    have HR5 := hid (hr4.fr hB5 hb5)
    have HSO5 := hid (hso4.fr (Nat.lt_of_lt_of_le HS3.out hbw.size) hb5)
    have HB5 := hid (hb4.trans (hb5.mono (Nat.le_of_lt hB5)))
    have HIX5 : Hid (∀ i, i < js.length → ∃ x, ai = some x ∧ w3.heap.size ≤ x.block ∧ x.block < w5.heap.size ∧ w5.cell? (x.add i) = some (.int .i64 ((js.getD i 0 : Nat) : Int))) := by
      intro i hi
      obtain ⟨x, rfl, h1, h2, h3⟩ := hix i hi
      refine ⟨x, rfl, h1, Nat.lt_of_lt_of_le h2 hsz5, ?_⟩
      rw [hb5.cell (by rw [add_block]; exact h2)]
      exact h3
    have HZ5 : Hid (B2 < w5.heap.size) := Nat.lt_of_lt_of_le (Nat.lt_of_lt_of_le HS3.out hbw.size) hsz5
    clear hb5 hb4 hso4 hr4 hst4 hix hbw hsz5 hB5 hrule
    have hV : Below w5.heap.size w5 (w5.alloc (Pbox R.T R.D)) := (Below.refl _ _).alloc (Nat.le_refl _) _
    have hVs : (w5.alloc (Pbox R.T R.D)).heap.size = w5.heap.size + 1 := by simp
    have hwB : w.heap.size < w5.heap.size := Nat.lt_trans HS.out HZ5.out
    have hcall := cutfn_call R w.heap.size n js ai ci (wtF ds) (suF ds) (faF ds) (armF R ds) (by omega) (by omega) (fun j hj => Nat.lt_of_lt_of_le ((HJM.out j).1 hj).1 (Nat.min_le_left _ _)) HJN.out (fun i _ => (arm_facts R ds i).1)
      (w5.alloc (Pbox R.T R.D)) (by omega) (HST5.out.fr hwB hV) (HR5.out.fr hwB hV) (by
        intro i hi
        obtain ⟨x, rfl, h1, h2, h3⟩ := HIX5.out i hi
        refine ⟨x, rfl, by omega, by omega, ?_⟩
        rw [hV.cell (by rw [add_block]; exact h2)]
        exact h3)
    have hp0 : (w5.alloc (Pbox R.T R.D)).cell? ⟨w5.heap.size, 0, none⟩ = some (.float .f64 R.T) := by go_simp
    have hp1 : (w5.alloc (Pbox R.T R.D)).cell? ⟨w5.heap.size, 1, none⟩ = some (.float .f64 R.D) := by go_simp
    have HSO5' := hid (HSO5.out.fr HZ5.out hV)
    have HB5' := hid (HB5.out.trans (hV.mono (Nat.le_of_lt hwB)))
    go_wp2_with fail
    refine hcall.mono ?_
    rintro e w6 ⟨rfl, ho6, hst6⟩
    have q0 : w6.cell? ⟨w5.heap.size, 0, none⟩ = some (.float .f64 R.T) := (ho6.cell (by rw [hVs]; exact Nat.lt_succ_self _) (by show w5.heap.size ≠ _; omega)).trans hp0
    have q1 : w6.cell? ⟨w5.heap.size, 1, none⟩ = some (.float .f64 R.D) := (ho6.cell (by rw [hVs]; exact Nat.lt_succ_self _) (by show w5.heap.size ≠ _; omega)).trans hp1
    have HST6 := hid hst6
    have HSO6 := hid (HSO5'.out.only (by have := HZ5.out; omega) (by have := HS.out; omega) ho6)
    have HB6 := hid (HB5'.out.trans (ho6.below (by omega) (Nat.le_refl _)))
    clear hcall hp0 hp1 ho6 hst6 HSO5' HB5' hV hVs HST5 HR5 HSO5 HB5 HIX5 HST HR HSO HB
    have g1 := run_div R.hg
    have g2 := log_call R.g0 R.g1 R.hl2
    have g3 := run_mul R.hS2
    have g4 := run_sub R.ha
    have g5 := run_mul R.hm
    have g6 := run_sub R.hn
    have g7 := run_div R.hL2
    have g8 := run_sub R.hp
    have g9 := run_div R.hh
    go_wp2_with fail
    go_quiet (first | (go_at_call 11; refine (g2 _).mono ?_; rintro e w8 ⟨rfl, rfl⟩; exact ⟨rfl, _, rfl⟩))
    go_wp2_with fail
    refine (max3_call R.p R.h minB _).mono ?_
    rintro e w7 ⟨rfl, rfl⟩
    clear g1 g2 g3 g4 g5 g6 g7 g8 g9 q0 q1
    have HCB : Hid (Bls w.heap.size w ac cb) := hc
    clear hc hv
    go_wp2_with fail
    go_loopw [21] (fun vi wr => ∃ q : Nat, q ≤ n ∧ vi = .int .i64 q ∧ Hid (St wr w.heap.size n (wtF ds) (fun i => if i ∈ js then (armF R ds i).1 else suF ds i) (fun i => if i ∈ js then (armF R ds i).2 else faF ds i)) ∧ Hid (St wr B2 n (wtF ds) (suF ds) (faF ds)) ∧ Hid (Below w.heap.size w wr)) (fun vi _ => n - (intOf vi).toNat)
    case atStart => exact ⟨0, Nat.zero_le _, rfl, HST6, HSO6, below_drewN HB6.out _⟩
    case round =>
      obtain ⟨q, hq, rfl, HSA, HSB, HBW⟩ := hrel
      clear HST6 HSO6 HB6
      by_cases hlt : q < n
      · obtain ⟨c0, c1, c2⟩ := HSA.out q hlt
        obtain ⟨o0, o1, o2⟩ := HSB.out q hlt
        dsimp only at c1 c2
        obtain ⟨_, r, got, want, h1, h2, h3, h4, h5⟩ := arm_facts R ds q
        have k1 := ashare_call h1
        have k3 := same_call (wtF ds q)
        have hq1 : q < 1024 := by omega
        have hw0 : IntKind.i64.wrap (3 * (q : Int)) = 3 * (q : Int) := by rw [IntKind.wrap_i64]; omega
        have hw1 : IntKind.i64.wrap (3 * (q : Int) + 1) = 3 * (q : Int) + 1 := by rw [IntKind.wrap_i64]; omega
        have hw2 : IntKind.i64.wrap (3 * (q : Int) + 2) = 3 * (q : Int) + 2 := by rw [IntKind.wrap_i64]; omega
        have ix1 : ∀ W, (Instr.indexAt 23 (.slice (some ⟨B2, 0, none⟩) (3 * n) (3 * n)) (.int .i64 (3 * (q : Int) + 1))).run Yba.prog W = .ok (.pointer (some ⟨B2, 3 * q + 1, none⟩)) W := fun W => index_at W B2 n q 1 hlt (by decide)
        have ix2 : ∀ W, (Instr.indexAt 23 (.slice (some ⟨B2, 0, none⟩) (3 * n) (3 * n)) (.int .i64 (3 * (q : Int) + 2))).run Yba.prog W = .ok (.pointer (some ⟨B2, 3 * q + 2, none⟩)) W := fun W => index_at W B2 n q 2 hlt (by decide)
        have iy1 : ∀ W, (Instr.indexAt 23 (.slice (some ⟨w.heap.size, 0, none⟩) (3 * n) (3 * n)) (.int .i64 (3 * (q : Int) + 1))).run Yba.prog W = .ok (.pointer (some ⟨w.heap.size, 3 * q + 1, none⟩)) W := fun W => index_at W w.heap.size n q 1 hlt (by decide)
        have iy2 : ∀ W, (Instr.indexAt 23 (.slice (some ⟨w.heap.size, 0, none⟩) (3 * n) (3 * n)) (.int .i64 (3 * (q : Int) + 2))).run Yba.prog W = .ok (.pointer (some ⟨w.heap.size, 3 * q + 2, none⟩)) W := fun W => index_at W w.heap.size n q 2 hlt (by decide)
        have hi1 : 3 * (q : Int) + 1 < 3 * (n : Int) := by omega
        have hi2 : 3 * (q : Int) + 2 < 3 * (n : Int) := by omega
        have hi3' : 0 ≤ 3 * (q : Int) + 1 := by omega
        have hi4 : 0 ≤ 3 * (q : Int) + 2 := by omega
        have hi5 : (3 * (q : Int) + 1).toNat = 3 * q + 1 := by omega
        have hi6 : (3 * (q : Int) + 2).toNat = 3 * q + 2 := by omega
        have hcb := HCB.out.fr HBW.out
        clear h1
        by_cases hin : q < cb.length ∧ cb.getD q false = true
        · have hmem : q ∈ js := (HJM.out q).2 ⟨by omega, hin.2⟩
          rw [if_pos hmem] at c1 c2
          obtain ⟨x, hax, hxb, hcx⟩ := hcb q hin.1
          rw [hin.2] at hcx
          have hql := hin.1
          obtain ⟨wa, wb, x1, x2, x3⟩ := want_parts h3
          have k2 := ashare_call h2
          have m1 := run_sub x1
          have m2 := run_div x2
          have m3 := max3_call wa wb (max3B R.p R.h minB)
          have m4 := min_call x3
          obtain ⟨E, e1, e2, e3⟩ := okd_test h4
          have m5 := run_sub e1
          have m6 := abs_call E e2
          have hle : (FloatKind.f64.format.order (E % 2 ^ 63) 4472406533629990549 == some .lt || FloatKind.f64.format.order (E % 2 ^ 63) 4472406533629990549 == some .eq) = true := e3
          generalize E % 2 ^ 63 = E' at m6 hle
          generalize max3B R.p R.h minB = F2 at *
          generalize max3B wa wb F2 = wm at *
          generalize (armF R ds q).1 = sa at *
          generalize (armF R ds q).2 = fa at *
          clear hcb hin hmem h2 h3 h4 h5 x1 x2 x3 e1 e2 e3
          subst hax
          go_wp2_with fail
          go_quiet (first | (go_at_call 10; refine (k3 _).mono ?_; rintro e w8 ⟨rfl, rfl⟩; exact ⟨rfl, _, rfl⟩))
          go_wp2_with fail
          go_quiet (first | (go_at_call 13; refine (k1 _).mono ?_; rintro e w8 ⟨rfl, rfl⟩; exact ⟨rfl, _, rfl⟩))
          go_wp2_with fail
          refine (m3 _).mono ?_
          rintro e w7 ⟨rfl, rfl⟩
          go_wp2_with fail
          refine (m4 _).mono ?_
          rintro e w7 ⟨rfl, rfl⟩
          go_wp2_with fail
          go_quiet (first | (go_at_call 13; refine (k2 _).mono ?_; rintro e w8 ⟨rfl, rfl⟩; exact ⟨rfl, _, rfl⟩))
          go_wp2_with fail
          refine (m6 _).mono ?_
          rintro e w7 ⟨rfl, rfl⟩
          go_wp2
          go_roundw
          case rel => exact ⟨q + 1, by omega, by go_num, HSA, HSB, below_drewN HBW.out _⟩
          case measure => simp [intOf]; omega
        · have hmem : q ∉ js := fun h => hin ⟨by have := ((HJM.out q).1 h).1; omega, ((HJM.out q).1 h).2⟩
          rw [if_neg hmem] at c1 c2
          obtain ⟨E, e1, e2, e3⟩ := okd_test h5
          have m5 := run_sub e1
          have m6 := abs_call E e2
          have hle : (FloatKind.f64.format.order (E % 2 ^ 63) 4472406533629990549 == some .lt || FloatKind.f64.format.order (E % 2 ^ 63) 4472406533629990549 == some .eq) = true := e3
          generalize E % 2 ^ 63 = E' at m6 hle
          by_cases hql : q < cb.length
          · obtain ⟨x, hax, hxb, hcx⟩ := hcb q hql
            have hbf : cb.getD q false = false := by
              cases h : cb.getD q false
              · rfl
              · exact absurd ⟨hql, h⟩ hin
            rw [hbf] at hcx
            clear hcb hin hmem h2 h3 h4 h5 e1 e2 e3 hbf
            subst hax
            go_wp2_with fail
            go_quiet (first | (go_at_call 10; refine (k3 _).mono ?_; rintro e w8 ⟨rfl, rfl⟩; exact ⟨rfl, _, rfl⟩))
            go_wp2_with fail
            go_quiet (first | (go_at_call 13; refine (k1 _).mono ?_; rintro e w8 ⟨rfl, rfl⟩; exact ⟨rfl, _, rfl⟩))
            go_wp2_with fail
            go_quiet (first | (go_at_call 13; refine (k1 _).mono ?_; rintro e w8 ⟨rfl, rfl⟩; exact ⟨rfl, _, rfl⟩))
            go_wp2_with fail
            refine (m6 _).mono ?_
            rintro e w7 ⟨rfl, rfl⟩
            go_wp2
            go_roundw
            case rel => exact ⟨q + 1, by omega, by go_num, HSA, HSB, below_drewN HBW.out _⟩
            case measure => simp [intOf]; omega
          · clear hcb hin hmem h2 h3 h4 h5 e1 e2 e3
            go_wp2_with fail
            go_quiet (first | (go_at_call 10; refine (k3 _).mono ?_; rintro e w8 ⟨rfl, rfl⟩; exact ⟨rfl, _, rfl⟩))
            go_wp2_with fail
            go_quiet (first | (go_at_call 13; refine (k1 _).mono ?_; rintro e w8 ⟨rfl, rfl⟩; exact ⟨rfl, _, rfl⟩))
            go_wp2_with fail
            go_quiet (first | (go_at_call 13; refine (k1 _).mono ?_; rintro e w8 ⟨rfl, rfl⟩; exact ⟨rfl, _, rfl⟩))
            go_wp2_with fail
            refine (m6 _).mono ?_
            rintro e w7 ⟨rfl, rfl⟩
            go_wp2
            go_roundw
            case rel => exact ⟨q + 1, by omega, by go_num, HSA, HSB, below_drewN HBW.out _⟩
            case measure => simp [intOf]; omega
      · obtain rfl : q = n := by omega
        go_wp2
        go_ret
        exact ⟨rfl, HBW.out⟩

end Go.Proofs.Ybulkuac
