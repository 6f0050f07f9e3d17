import Derived.Test.YbulkubsLaw
import Derived.ProofKit
import Derived.OpenShut
import Derived.ChangeOld
import Derived.Laws.IdiomArrays
namespace Go.Proofs.Ybulkubs.lawS1019CFactors
open Go.ChangeShapes Go.WideShapes Go.ChangeAt Go.RowKit
set_option linter.unusedVariables false

theorem own : ownKnob Yba.prog.godebug = none := by kernel_rfl
theorem cells47 : Yba.prog.cellsOf 47 = 3 := by kernel_rfl
theorem cells5 : Yba.prog.cellsOf 5 = 1 := by kernel_rfl

theorem list3 (cs : Array Value) (h : cs.size = 3) : ∃ c0 c1 c2, cs = #[c0, c1, c2] := by
  obtain ⟨l⟩ := cs
  match l, h with
  | [c0, c1, c2], _ => exact ⟨c0, c1, c2, rfl⟩

/-- An array of three bytes, opened. -/
theorem open3 {H : Type} {enc : TypeId × Value → H} {W : World} {base : Nat} {v : Value} {d : DataW H} {p : List MemPlace} (hv : Value.okWide Yba.prog W .any base 47 v) (h : DataW.Trod enc Yba.prog W 0 (fun _ => true) true 47 v d p) :
    ∃ x0 x1 x2 : Int, v = .agg #[.int .u8 x0, .int .u8 x1, .int .u8 x2] ∧ d = .agg [.lit (.int .u8 x0), .lit (.int .u8 x1), .lit (.int .u8 x2)] ∧ p = [] ∧ (Lit.int .u8 x0).wf = true ∧ (Lit.int .u8 x1).wf = true ∧ (Lit.int .u8 x2).wf = true := by
  obtain ⟨cs, rfl, hsz, _⟩ : ∃ cs, v = .agg cs ∧ cs.size = Yba.prog.cellsOf 47 ∧ Row.okWide Yba.prog W .any base 47 cs := by
    simpa [Value.okWide, Yba.underlying47] using hv
  rw [cells47] at hsz
  obtain ⟨c0, c1, c2, rfl⟩ := list3 cs hsz
  obtain ⟨fuel, hf⟩ := h
  obtain ⟨y0, y1, y2, m, hx, hy0, hy1, hy2⟩ := trod_array3 Yba.underlying47 cells5 hf
  obtain ⟨x0, e0, rfl, w0⟩ := DataW.trod_int Yba.underlying5 hy0
  obtain ⟨x1, e1, rfl, w1⟩ := DataW.trod_int Yba.underlying5 hy1
  obtain ⟨x2, e2, rfl, w2⟩ := DataW.trod_int Yba.underlying5 hy2
  simp at e0 e1 e2
  subst e0 e1 e2
  simp only [Prod.mk.injEq] at hx
  exact ⟨x0, x1, x2, rfl, hx.1, hx.2, w0, w1, w2⟩

theorem shut3 {H : Type} {enc : TypeId × Value → H} {W : World} {sp : Nat → Bool} {x0 x1 x2 : Int} (w0 : (Lit.int .u8 x0).wf = true) (w1 : (Lit.int .u8 x1).wf = true) (w2 : (Lit.int .u8 x2).wf = true) :
    DataW.Trod enc Yba.prog W 0 sp true 47 (.agg #[.int .u8 x0, .int .u8 x1, .int .u8 x2]) (.agg [.lit (.int .u8 x0), .lit (.int .u8 x1), .lit (.int .u8 x2)]) [] :=
  ⟨2, by simp [DataW.trod, Value.cells, Yba.underlying47, Yba.underlying5, cells47, cells5, w0, w1, w2, show List.range 3 = [0, 1, 2] from rfl]⟩

set_option maxRecDepth 100000 in
theorem lifted (os : Os) (started : os.Started) (H : Type) (enc : TypeId × Value → H) :
    ReturnsInHanded {} Yba.checked os 4 .any (Rows.lawS1019CFactorsSpec.pre6 enc Yba.prog Yba.f4 Rows.lawS1019CFactorsRow.domain false) (Rows.lawS1019CFactorsSpec.post enc Yba.prog Yba.f4 false true false false) := by
  refine returnsInHanded_of_change (C := Yba.checked) own started (by kernel_rfl) Yba.func4
    (ChangeSpec.witness6 (enc := enc) (C := Yba.checked) false ⟨#[], #[.agg #[.int .u8 0, .int .u8 0, .int .u8 0], .agg #[.int .u8 0, .int .u8 0, .int .u8 0], .int .u8 0, .int .u8 0, .int .u8 0], []⟩ 8 (by kernel_rfl) (by kernel_rfl) (by kernel_rfl) (by kernel_rfl)) ?_
  intro W base args ds gs before hval0 hW hcnd _
  have hval : ∀ (j : Nat) t v, Yba.f4.params[j]? = some t → args[j]? = some v → Value.okWide Yba.prog W .any base t v := hval0
  have hW' := hW
  obtain ⟨p, q, hA0, hV, rfl, hfz, hnd⟩ := hW
  have hA : DataW.TrodAll enc Yba.prog W 0 (fun _ => true) true Yba.f4.params.toList args.toList ds p := hA0
  rw [Yba.params4] at hA hval
  obtain ⟨v0, vs0, d0, ds0, p0, q0, hargs, rfl, rfl, h0, r0⟩ := trodAll_cons hA
  obtain ⟨v1, vs1, d1, ds1, p1, q1, rfl, rfl, rfl, h1, r1⟩ := trodAll_cons r0
  obtain ⟨v2, vs2, d2, ds2, p2, q2, rfl, rfl, rfl, h2, r2⟩ := trodAll_cons r1
  obtain ⟨v3, vs3, d3, ds3, p3, q3, rfl, rfl, rfl, h3, r3⟩ := trodAll_cons r2
  obtain ⟨v4, vs4, d4, ds4, p4, q4, rfl, rfl, rfl, h4, r4⟩ := trodAll_cons r3
  obtain ⟨rfl, rfl, rfl⟩ := trodAll_nil r4
  obtain rfl : args = #[v0, v1, v2, v3, v4] := by cases args; simp_all
  obtain ⟨rfl, rfl⟩ := trodVars_none hV
  obtain ⟨x0, x1, x2, rfl, rfl, rfl, wx0, wx1, wx2⟩ := open3 (hval 0 47 v0 rfl rfl) h0
  obtain ⟨y0, y1, y2, rfl, rfl, rfl, wy0, wy1, wy2⟩ := open3 (hval 1 47 v1 rfl rfl) h1
  obtain ⟨a2, rfl, rfl, rfl, w2⟩ := open_int Yba.underlying5 (hval 2 5 v2 rfl rfl) h2
  obtain ⟨a3, rfl, rfl, rfl, w3⟩ := open_int Yba.underlying5 (hval 3 5 v3 rfl rfl) h3
  obtain ⟨a4, rfl, rfl, rfl, w4⟩ := open_int Yba.underlying5 (hval 4 5 v4 rfl rfl) h4
  clear hA0 hval0
  refine (factors x0 x1 x2 y0 y1 y2 a2 a3 a4 (bounds_u8 wx0) (bounds_u8 wx1) (bounds_u8 wx2) (bounds_u8 wy0) (bounds_u8 wy1) (bounds_u8 wy2) (bounds_u8 w2) (bounds_u8 w3) (bounds_u8 w4) W).mono fun e W' ⟨he, hg⟩ => ?_
  subst he
  exact ⟨_, rfl, _, _, _, [], _, [], hW', trodAll_mk1 (shut_bool Yba.underlying4 _), (trodAll_cons_mk (shut3 wx0 wx1 wx2) (trodAll_cons_mk (shut3 wy0 wy1 wy2) (trodAll_cons_mk (shut_int Yba.underlying5 w2) (trodAll_cons_mk (shut_int Yba.underlying5 w3) (trodAll_cons_mk (shut_int Yba.underlying5 w4) trodAll_mk0))))), rfl, hg.frame _, fun h => by cases h⟩

theorem over : Rows.lawS1019CFactorsRow.holds Yba.pinned (OpenSpec.ofChange Rows.lawS1019CFactorsSpec) :=
  OpenClaim.holds_of_wide 4 Yba.f4 rfl rfl rfl rfl rfl rfl rfl ⟨rfl, rfl, rfl, rfl, rfl⟩ rfl rfl rfl rfl rfl (by kernel_rfl) Yba.func4 (by kernel_rfl)
    (of_decide_eq_true (by kernel_rfl)) (by unfold Func.isWrapper; first | (rw [if_pos (by decide +kernel)]; kernel_rfl) | (rw [if_neg (by decide +kernel)]; exact ⟨rfl, rfl⟩))
    (fun os started H enc _ => lifted os started H enc)

/-- ████ THE STATEMENT ████ -/
theorem proved : Rows.LawS1019CFactorsSaid := over
end Go.Proofs.Ybulkubs.lawS1019CFactors
