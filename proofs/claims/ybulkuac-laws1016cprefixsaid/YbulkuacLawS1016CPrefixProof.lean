import Derived.Test.YbulkuacPre
import Derived.WalkKit
import Derived.ProofKit
import Derived.OpenShut
import Derived.ChangeOld
import Derived.Below
import Derived.Deep.Slices
namespace Go.Proofs.Ybulkuac.lawS1016CPrefix
open Go.ChangeShapes Go.WideShapes Go.ChangeAt Go.RowKit
set_option linter.unusedVariables false

theorem own : ownKnob Yba.prog.godebug = none := by kernel_rfl
theorem laidOut : laidOutB Yba.prog = true := by kernel_rfl

theorem float_of_trod {H : Type} {enc : TypeId × Value → H} {W : World} {base : Nat} {sp : Nat → Bool} {held : Bool} {n : Nat} {v : Value} {y : DataW H × List MemPlace} (h : DataW.trod enc Yba.prog W base sp held n 27 [v] = some y) : ∃ b, v = .float .f64 b := by
  cases n with
  | zero => simp [DataW.trod] at h
  | succ n =>
    simp only [DataW.trod, Yba.underlying27] at h
    cases v <;> simp at h
    · rename_i k b
      cases k
      · simp at h
      · exact ⟨b, rfl⟩

/-- WHAT THE WALK IS TOLD OF THE SLICE OF FLOATS THAT CAME IN. -/
def IsFl (w : World) (a : Option Addr) (len cap : Nat) (ls : List Nat) : Prop :=
  ls.length = len ∧ len ≤ cap ∧ cap ≤ maxLen ∧ Fls w a ls

theorem walk (a0 : Option Addr) (len0 cap0 : Nat) (l0 : List Nat) (w : World) (w0 : IsFl w a0 len0 cap0 l0) :
    Calls Yba.prog 6 #[.slice a0 len0 cap0] w fun e w' => e = .returned (.bool true) ∧ Below w.heap.size w w' := by
  obtain ⟨h1, h2, h3, h4⟩ := w0
  by_cases hlong : 1024 < len0
  · exact pre_long a0 len0 cap0 w (by omega) hlong
  · rcases List.eq_nil_or_concat l0 with rfl | ⟨ls, v, rfl⟩
    · simp at h1
      subst h1
      exact pre_zero a0 cap0 w
    · rw [List.concat_eq_append] at h1 h4
      simp at h1
      subst h1
      obtain ⟨x, rfl, _⟩ := h4 0 (by simp)
      exact pre_some x cap0 ls v (by omega) h2 h3 w h4

set_option maxRecDepth 100000 in
theorem lifted (os : Os) (started : os.Started) (H : Type) (enc : TypeId × Value → H) :
    ReturnsInHanded {} Yba.checked os 6 .any (Rows.lawS1016CPrefixSpec.pre6 enc Yba.prog Yba.f6 Rows.lawS1016CPrefixRow.domain false) (Rows.lawS1016CPrefixSpec.post enc Yba.prog Yba.f6 false true false false) := by
  refine returnsInHanded_of_change (C := Yba.checked) own started (by kernel_rfl) Yba.func6
    (ChangeSpec.witness6 (enc := enc) (C := Yba.checked) false ⟨#[], #[.slice none 0 0], []⟩ 8 (by kernel_rfl) (by kernel_rfl) (by kernel_rfl) (by kernel_rfl)) ?_
  intro W base args ds gs before hval0 hW hcnd _
  have hval : ∀ (j : Nat) t v, Yba.f6.params[j]? = some t → args[j]? = some v → Value.okWide Yba.prog W .any base t v := hval0
  have hW' := hW
  obtain ⟨p, q, hA0, hV, rfl, hfz, hnd⟩ := hW
  have hA : DataW.TrodAll enc Yba.prog W 0 (fun _ => true) true Yba.f6.params.toList args.toList ds p := hA0
  rw [Yba.params6] at hA hval
  obtain ⟨v0, vs0, d0, ds0, p0, q0, hargs, rfl, rfl, h0, r0⟩ := trodAll_cons hA
  obtain ⟨rfl, rfl, rfl⟩ := trodAll_nil r0
  obtain rfl : args = #[v0] := by cases args; simp_all
  obtain ⟨rfl, rfl⟩ := trodVars_none hV
  obtain ⟨a0, len0, cap0, rfl⟩ := okWide_slice Yba.underlying23 (hval 0 23 v0 rfl rfl)
  have k0 := h0
  have lt0 : ∀ x ∈ p0, x.block < W.heap.size := by obtain ⟨m, hm⟩ := k0; exact DataW.trod_lt m _ _ _ hm
  obtain ⟨l0, w0⟩ : ∃ ls, IsFl W a0 len0 cap0 ls := by
    obtain ⟨fuel, hf⟩ := h0
    rcases Deep.open_slice1 Yba.underlying23 (by kernel_rfl) hf with ⟨hcs, _⟩ | ⟨x, l, c, m, n, V, D, Pl, hcs, _, hl, hm, hmm, _, hx⟩
    · simp [Value.cells] at hcs
      obtain ⟨rfl, rfl, rfl⟩ := hcs
      exact ⟨[], rfl, Nat.zero_le _, Nat.zero_le _, fun i hi => by simp at hi⟩
    · simp [Value.cells] at hcs
      obtain ⟨rfl, rfl, rfl⟩ := hcs
      have hm2 : m = cap0 := by simpa using hmm
      have hb : ∀ i, i < len0 → ∃ b, V i = .float .f64 b := fun i hi => float_of_trod (hx i (by omega)).2
      refine ⟨(List.range len0).map fun i => (match V i with | .float _ b => b | _ => 0), by simp, hl, hm, ?_⟩
      intro i hi
      simp at hi
      obtain ⟨b, hb'⟩ := hb i hi
      refine ⟨x, rfl, ?_⟩
      rw [(hx i (by omega)).1]
      simp [hi, hb']
  clear hA0 hval0
  refine (walk a0 len0 cap0 l0 W w0).mono fun e W' ⟨he, bel⟩ => ?_
  subst he
  exact ⟨_, rfl, _, _, _, [], _, [], hW', trodAll_mk1 (shut_bool Yba.underlying4 _), (trodAll_cons_mk (Below.trod laidOut (by kernel_rfl) (of_decide_eq_true (by kernel_rfl)) k0 bel lt0) trodAll_mk0), rfl, bel.frame _, fun h => by cases h⟩

theorem over : Rows.lawS1016CPrefixRow.holds Yba.pinned (OpenSpec.ofChange Rows.lawS1016CPrefixSpec) :=
  OpenClaim.holds_of_wide 6 Yba.f6 rfl rfl rfl rfl rfl rfl rfl ⟨rfl, rfl, rfl, rfl, rfl⟩ rfl rfl rfl rfl rfl (by kernel_rfl) Yba.func6 (by kernel_rfl)
    (of_decide_eq_true (by kernel_rfl)) (by unfold Func.isWrapper; first | (rw [if_pos (by decide +kernel)]; kernel_rfl) | (rw [if_neg (by decide +kernel)]; exact ⟨rfl, rfl⟩))
    (fun os started H enc _ => lifted os started H enc)

/-- ████ THE STATEMENT ████ -/
theorem proved : Rows.LawS1016CPrefixSaid := over
end Go.Proofs.Ybulkuac.lawS1016CPrefix
