import Derived.Test.YbulktzaFmtLaw
import Derived.BigQuiet
import Derived.WalkSpells
import Derived.Lib.Builder
namespace Go.Proofs.YbulktzaFmt
open Go.RowKit
set_option linter.unusedVariables false

set_option maxHeartbeats 3200000 in
set_option maxRecDepth 100000 in
theorem walk_short (x : Nat) (hx : x < 18446744073709551616) (av : Option Addr) (cv : Nat) (zs : List Nat) (hz : ∀ z ∈ zs, z < 18446744073709551616) (hzl : zs.length ≤ 1024) (ap : Option Addr) (cp : Nat) (ps : List Nat) (hpl : ps.length ≤ 1024) (w : World) (hv : Vec w.heap.size w av zs) (hap : ap = none → ps.length = 0 ∧ cp = 0) (hp : Vec w.heap.size w ap ps) :
    Calls Ybaf.prog 3 #[.int .u64 x, .slice av zs.length cv, .slice ap ps.length cp] w fun e w' => e = .returned (.bool true) ∧ Below w.heap.size w w' := by
  have hE := enc_any x hx av cv zs hz hzl w hv
  have hLx := Lib.uvarint_length64 hx
  have hLp := Lib.uvarint_pos x
  have hLl := Lib.uvarint_length64 (x := zs.length) (by omega)
  have hVl := vars_len zs hz
  go_enter Ybaf.func3, Ybaf.ntmps3
  go_wp2_with fail
  refine hE.mono ?_
  rintro e w1 ⟨vd, rfl, ho1, hb1⟩
  obtain ⟨g, c, hvd, hBg, hgl, hnc, hcm, hln, hlies⟩ := own_lies ho1 (by omega)
  subst hvd
  have hpV : Vec w1.heap.size w1 ap ps := fun i hi => by
    obtain ⟨y, h1, h2, h3⟩ := (hp.fr hb1) i hi
    exact ⟨y, h1, Nat.lt_of_lt_of_le h2 hb1.size, h3⟩
  have hC := copy_any ap cp ps hpl w1 hap hpV
  obtain ⟨n, hn⟩ : ∃ n, n = (Lib.uvarint x).length + (Lib.uvarint zs.length).length + (vars zs).length := ⟨_, rfl⟩
  rw [← hn] at hnc ⊢
  have HN := hid hn
  have HLi := hid hlies
  have HV := hid hv
  clear hE ho1 hn hln hlies hv hp hpV
  go_wp2_with fail
  refine hC.mono ?_
  rintro e w2 ⟨ia, il, ic, rfl, hio, hic, hg12⟩
  have hU := fun (hlT : Lies (w2.alloc (Obj.cells #[Value.int IntKind.u64 7, Value.slice ia il ic] 29)) g 0 (Lib.uvarint x ++ (Lib.uvarint zs.length ++ vars zs))) hgT hgt hT hrow hD =>
    un_any w2.heap.size g 0 n c x hx zs hz hzl (by have := HN.out; omega) hnc hcm (w2.alloc (Obj.cells #[Value.int IntKind.u64 7, Value.slice ia il ic] 29)) hgT hlT ia il ic hgt hT (ia.map Addr.block) hrow (Got zs ia il w2.heap.size) hD
  have hg2 : g < w2.heap.size := Nat.lt_of_lt_of_le hgl hg12.size
  have hint : ∀ b, ia = some ⟨b, 0, none⟩ → w1.heap.size ≤ b ∧ b < w2.heap.size := by
    intro b hb
    rcases hio with ⟨h, _⟩ | ⟨b', cur, h1, _, h3, _, h5⟩
    · rw [h] at hb; cases hb
    · rw [hb] at h1
      cases h1
      exact ⟨h5, (Array.getElem?_eq_some_iff.1 h3).1⟩
  have hUU := hU (HLi.out.same ((Below.heap_alloc w2 _ g hg2).trans (hg12.block g hgl (by simp)))) (by simp; omega) (by omega) (heap_alloc_new w2 _)
    (by
      intro h
      rcases hio with ⟨h1, _⟩ | ⟨b', cur, h1, _, h3, _, h5⟩
      · rw [h1] at h; cases h
      · have := (hint b' h1).2
        rw [h1] at h
        simp at h
        omega)
    (by
      intro o1 c1 wx hl hc hcm' hgx
      have hbx : ∀ b, b < w2.heap.size → wx.heap[b]? = w2.heap[b]? := fun b hb => (hgx.block b (by simp; omega) (by simp)).trans (Below.heap_alloc w2 _ b hb)
      refine dec_any w1.heap.size g w2.heap.size zs hz hzl ia il ic hic wx (by have := hgx.size; simp at this; omega) (by have := hgx.size; simp at this; omega) ?_ ?_ o1 c1 hl hc hcm'
      · rcases hio with h | ⟨b, cur, h1, h2, h3, h4, h5⟩
        · exact .inl h
        · exact .inr ⟨b, cur, h1, h2, (hbx b (hint b h1).2).trans h3, h4, h5⟩
      · intro b hb
        have := hint b hb
        omega)
  have HU := hid hUU
  have hint2 : ∀ ad, ia = some ad → w1.heap.size ≤ ad.block := by
    intro ad hb
    rcases hio with ⟨h, _⟩ | ⟨b', cur, h1, _, h3, _, h5⟩
    · rw [h] at hb; cases hb
    · rw [hb] at h1
      cases h1
      exact h5
  have HI2 := hid hint2
  have HG := hid hg12
  clear hU hUU hint hint2 hio HLi hC hg12
  go_wp2_with fail
  refine HU.out.mono ?_
  rintro e w3 ⟨rfl, a, l, cpp, w2', hgot0, hc0, hc1, hk2, hk⟩
  have hgot := hgot0.kp hk2
  have hB2 : Below w.heap.size w w2 := hb1.trans ⟨HG.out.os, HG.out.tape, HG.out.output, HG.out.size, fun k hk' => HG.out.block k (Nat.lt_of_lt_of_le hk' hb1.size) (by simp)⟩
  have hB3 : Below w.heap.size w w3 := (hB2.alloc hB2.size _).trans ⟨hk.os, hk.tape, hk.output, hk.size, fun k hk' => hk.block k (by have := hB2.size; simp; omega) (by
    rintro (h | h)
    · have := hB2.size; omega
    · cases ia with
      | none => cases h
      | some ad =>
        simp at h
        have := HI2.out ad rfl
        have := hb1.size
        omega)⟩
  have hv3 := HV.out.fr hB3
  clear hgot0 hk2 hk hB2 HU HV HG
  rcases hgot with ⟨h0, rfl, rfl, rfl⟩ | ⟨h0, b, rfl, rfl, hcp, hf, hbt, hsame⟩
  · have hq := fun W => Lib.run_eql_slice_nil (P := Ybaf.prog) W 27 22 none 0 0 0 0 Ybaf.underlying27
    have h0' : ((zs.length : Int) == 0) = true := by rw [beq_iff_eq]; omega
    go_wp2
    go_ret
    exact ⟨rfl, hB3⟩
  · have h0' : ((zs.length : Int) == 0) = false := beq_eq_false_iff_ne.2 (by omega)
    have HF := hid hf
    have HS := hid hsame
    have HV3 := hid hv3
    have HB3 := hid hB3
    have hne : ((x : Int) != x) = false := by simp
    have hne2 : ((zs.length : Int) != zs.length) = false := by simp
    clear hf hsame hv3 hB3 hgl hg2 hb1 HN HI2
    go_wp2
    go_loopw [49] (fun vi wr => ∃ k : Nat, k ≤ zs.length ∧ vi = .int .i64 k ∧ ∃ m, wr = w3.drewN m) (fun vi _ => zs.length - (intOf vi).toNat)
    case atStart => exact ⟨0, Nat.zero_le _, rfl, 0, rfl⟩
    case round =>
      obtain ⟨k, hk, rfl, m, rfl⟩ := hrel
      by_cases hlt : k < zs.length
      · obtain ⟨ad, rfl, hadb, hca⟩ := HV3.out k hlt
        have hcb := HF.out.2 k hlt
        generalize zs.getD k 0 = z at hca hcb
        go_wp2
        go_quiet (fail)
        go_wp2
        go_roundw
        case rel => exact ⟨k + 1, by omega, by go_num, _, rfl⟩
        case measure => simp [intOf]; omega
      · obtain rfl : k = zs.length := by omega
        by_cases hil : zs.length ≤ il
        · obtain rfl := HS.out hil
          have hd : decide ((zs.length : Int) ≤ il) = true := by simp; omega
          have hil0 : 0 < il := by omega
          obtain ⟨i0, hi0, _⟩ := info_parts info22
          have hpn := fun W => Lib.run_neq_ptr_same (P := Ybaf.prog) W ⟨b, 0, none⟩ Ybaf.underlying33 hi0
          go_wp2
          go_quiet (fail)
          go_wp2
          go_ret
          exact ⟨rfl, below_drewN (below_drewN HB3.out _) _⟩
        · have hd : decide ((zs.length : Int) ≤ il) = false := by simp; omega
          go_wp2
          go_quiet (fail)
          go_wp2
          go_ret
          exact ⟨rfl, below_drewN (below_drewN HB3.out _) _⟩

end Go.Proofs.YbulktzaFmt
