import Derived.Test.YbulktzaFmtProof
namespace Go.Proofs.YbulktzaFmt
open Go.ChangeShapes Go.WideShapes Go.ChangeAt Go.RowKit
open Go.Extern.Stop Go.Stop Go.Extern
set_option linter.unusedVariables false

theorem var_lt {P : Program} {W : World} {n : String} {g : Nat} {cs : Array Value} (hg : P.globalNamed n = some g) (hv : W.var? P n = some cs) : g < W.heap.size := by
  rcases Nat.lt_or_ge g W.heap.size with h | h
  · exact h
  · simp [World.var?, hg, Array.getElem?_eq_none h] at hv

set_option maxRecDepth 100000 in
set_option maxHeartbeats 1600000 in
theorem lifted (os : Os) (started : os.Started) (H : Type) (enc : TypeId × Value → H) :
    ReturnsInTold none {} Ybaf.checked os 3 .any Input.okWide ((OpenSpec.ofChange Rows.lawS1014BRoundTripSpec).preRow enc Ybaf.prog Ybaf.f3 Rows.lawS1014BRoundTripRow.domain false Rows.lawS1014BRoundTripRow.laid)
      (fun F => ((OpenSpec.ofChange Rows.lawS1014BRoundTripSpec).at F).post enc Ybaf.prog Ybaf.f3 false true false false) (aloneAtReturn Ybaf.prog) nothingAlways := by
  refine returnsInTold_of_row (C := Ybaf.checked) (s := OpenSpec.ofChange Rows.lawS1014BRoundTripSpec) (by kernel_rfl) own started (by kernel_rfl) Ybaf.func3
    (OpenSpec.witness_stopped_at (enc := enc) (C := Ybaf.checked) false (World.doorLaid Ybaf.prog 400 os) #[.int .u64 0, .slice none 0 0, .slice none 0 0] rfl (by kernel_rfl) (by kernel_rfl) (by kernel_rfl)
      (OpenSpec.preRow_of_B rfl 8 (by kernel_rfl) (by kernel_rfl) (door_met os _))) ?_
  intro F W base args ds gs before _ hF hval0 hW _ _ _ hL0 _
  have hval : ∀ (j : Nat) t v, Ybaf.f3.params[j]? = some t → args[j]? = some v → Value.okWide Ybaf.prog W .any base t v := hval0
  have hW' := hW
  obtain ⟨p, q, hA0, hV0, rfl, hfz, hnd⟩ := hW
  have hA : DataW.TrodAll enc Ybaf.prog W 0 (fun _ => true) true Ybaf.f3.params.toList args.toList ds p := hA0
  have hV : DataW.TrodVars enc Ybaf.prog W (fun _ => true) Rows.lawS1014BRoundTripSpec.vars gs q := hV0
  have hL : laidMet Ybaf.prog Rows.lawS1014BRoundTripRow.laid W := hL0
  rw [Ybaf.params3] at hA hval
  obtain ⟨v0, v1, v2, d0, d1, d2, p0, p1, p2, rfl, rfl, rfl, h0, h1, h2⟩ := trodAll_three hA
  obtain ⟨a0, rfl, rfl, rfl, w0⟩ := open_int Ybaf.underlying22 (hval 0 22 v0 rfl rfl) h0
  obtain ⟨a1, len1, cap1, rfl⟩ := okWide_slice Ybaf.underlying23 (hval 1 23 v1 rfl rfl)
  have k1 := h1
  have lt1 : ∀ x ∈ p1, x.block < W.heap.size := by obtain ⟨m, hm⟩ := k1; exact DataW.trod_lt m _ _ _ hm
  obtain ⟨z1, w1⟩ : ∃ zs, IsRow W a1 len1 cap1 zs := by
    obtain ⟨fuel, hf⟩ := h1
    rcases open_ints Ybaf.underlying23 Ybaf.underlying22 (by kernel_rfl) hf with ⟨hcs, _⟩ | ⟨x, l, c, zs, hcs, _, hl, hm, hz, _, hcell, hwz⟩
    · simp [Value.cells] at hcs
      obtain ⟨rfl, rfl, rfl⟩ := hcs
      exact ⟨[], .inl ⟨rfl, rfl, rfl, rfl⟩⟩
    · simp [Value.cells] at hcs
      obtain ⟨rfl, rfl, rfl⟩ := hcs
      exact ⟨zs, .inr ⟨_, rfl, hl, hm, by simpa using hz, hcell, hwz⟩⟩
  obtain ⟨a2, len2, cap2, rfl⟩ := okWide_slice Ybaf.underlying23 (hval 2 23 v2 rfl rfl)
  have k2 := h2
  have lt2 : ∀ x ∈ p2, x.block < W.heap.size := by obtain ⟨m, hm⟩ := k2; exact DataW.trod_lt m _ _ _ hm
  obtain ⟨z2, w2⟩ : ∃ zs, IsRow W a2 len2 cap2 zs := by
    obtain ⟨fuel, hf⟩ := h2
    rcases open_ints Ybaf.underlying23 Ybaf.underlying22 (by kernel_rfl) hf with ⟨hcs, _⟩ | ⟨x, l, c, zs, hcs, _, hl, hm, hz, _, hcell, hwz⟩
    · simp [Value.cells] at hcs
      obtain ⟨rfl, rfl, rfl⟩ := hcs
      exact ⟨[], .inl ⟨rfl, rfl, rfl, rfl⟩⟩
    · simp [Value.cells] at hcs
      obtain ⟨rfl, rfl, rfl⟩ := hcs
      exact ⟨zs, .inr ⟨_, rfl, hl, hm, by simpa using hz, hcell, hwz⟩⟩
  obtain ⟨e0, s0, hv0, _⟩ := laid_sentinel (g := 0) hL (by kernel_rfl) gt0 Ybaf.underlying31 (row88 _ (fun u h => h.trans (by kernel_rfl))) Ybaf.underlying88 Ybaf.underlying90 rfl rfl Ybaf.underlying9 cells90 cells9
  obtain ⟨e3, s3, hv3, _⟩ := laid_sentinel (g := 3) hL.tail (by kernel_rfl) gt3 Ybaf.underlying31 (row88 _ (fun u h => h.trans (by kernel_rfl))) Ybaf.underlying88 Ybaf.underlying90 rfl rfl Ybaf.underlying9 cells90 cells9
  obtain ⟨e1, s1, hv1, _⟩ := laid_sentinel (g := 1) hL.tail.tail (by kernel_rfl) gt1 Ybaf.underlying31 (row88 _ (fun u h => h.trans (by kernel_rfl))) Ybaf.underlying88 Ybaf.underlying90 rfl rfl Ybaf.underlying9 cells90 cells9
  obtain ⟨e2, s2, hv2, _⟩ := laid_sentinel (g := 2) hL.tail.tail.tail (by kernel_rfl) gt2 Ybaf.underlying31 (row88 _ (fun u h => h.trans (by kernel_rfl))) Ybaf.underlying88 Ybaf.underlying90 rfl rfl Ybaf.underlying9 cells90 cells9
  clear hA0 hV0 hval0 hL0
  obtain ⟨rfl, rfl⟩ := hV.unique (vars_read4 enc (by kernel_rfl) (by kernel_rfl) (by kernel_rfl) (by kernel_rfl) hv0 hv1 hv2 hv3 trivial trivial trivial trivial _)
  refine (walk a0 a1 len1 cap1 z1 a2 len2 cap2 z2 W w0 w1 w2).mono fun e W' ⟨he, bel⟩ => ?_
  subst he
  exact ⟨_, rfl, _, _, _, [], _, [.cell 0 0, .cell 1 0, .cell 2 0, .cell 3 0], hW', trodAll_mk1 (shut_bool Ybaf.underlying4 _),
    trodAll_mk3 (shut_int Ybaf.underlying22 w0) (Below.trod laidOut (by kernel_rfl) (of_decide_eq_true (by kernel_rfl)) k1 bel lt1) (Below.trod laidOut (by kernel_rfl) (of_decide_eq_true (by kernel_rfl)) k2 bel lt2),
    vars_read4 enc (by kernel_rfl) (by kernel_rfl) (by kernel_rfl) (by kernel_rfl) (var?_below (g := 0) bel (by kernel_rfl) (var_lt (g := 0) (by kernel_rfl) hv0) hv0) (var?_below (g := 1) bel (by kernel_rfl) (var_lt (g := 1) (by kernel_rfl) hv1) hv1) (var?_below (g := 2) bel (by kernel_rfl) (var_lt (g := 2) (by kernel_rfl) hv2) hv2) (var?_below (g := 3) bel (by kernel_rfl) (var_lt (g := 3) (by kernel_rfl) hv3) hv3) trivial trivial trivial trivial _,
    bel.frame _, fun h => by cases h⟩

set_option maxRecDepth 100000 in
/-- ████ THE STATEMENT ████ -/
theorem proved : Rows.LawS1014BRoundTripToldSaid :=
  Claim7.holds_of_told_tied_any_at .later 3 Ybaf.f3 "fmt.errorf" [] [] _ _ _ _ _ (by kernel_rfl) rfl rfl rfl laidOutP (by kernel_rfl) rfl ⟨rfl, rfl, rfl, rfl, rfl, rfl, rfl⟩ rfl rfl (by kernel_rfl) (by kernel_rfl) Ybaf.func3 (by kernel_rfl)
    (of_decide_eq_true (by kernel_rfl)) (by unfold Func.isWrapper; first | (rw [if_pos (by decide +kernel)]; kernel_rfl) | (rw [if_neg (by decide +kernel)]; exact ⟨rfl, rfl⟩)) stopsAre.symm rfl stopKnobsAre.symm (by kernel_rfl)
    (by kernel_rfl) (by kernel_rfl) (by kernel_rfl) (by kernel_rfl) (by kernel_rfl) (by kernel_rfl) (by kernel_rfl) (by kernel_rfl) (by kernel_rfl) rfl (by kernel_rfl) rfl rfl
    rfl rfl
    rfl (by kernel_rfl) (by kernel_rfl) (by kernel_rfl) (by decide) (by kernel_rfl) lawS1014BRoundTrip_row_tie
    (OpenClaim.moreEntering_of (by kernel_rfl) (by kernel_rfl) (by kernel_rfl) (by kernel_rfl) (by kernel_rfl) (by kernel_rfl) (by kernel_rfl) (by kernel_rfl) (by kernel_rfl) (by kernel_rfl))
    ⟨_, WideRow.started_initial, quietAt _⟩
    (fun os started _ H enc _ => lifted os started H enc)

end Go.Proofs.YbulktzaFmt
