import Derived.Test.YbulkuacLeafB
import Derived.Deep.QuietTactic
import Derived.BigQuiet
namespace Go.Proofs.Ybulkuac
open Go.RowKit
set_option linter.unusedVariables false

set_option maxHeartbeats 3200000 in
set_option maxRecDepth 100000 in
theorem share_call {s f r : Nat} (h : shareB s f = some r) (b o cap : Nat) (w : World) (c1 : w.cell? ⟨b, o + 1, none⟩ = some (.float .f64 s)) (c2 : w.cell? ⟨b, o + 2, none⟩ = some (.float .f64 f)) :
    Calls Yba.prog 19 #[.slice (some ⟨b, o, none⟩) 3 cap] w fun e w' => e = .returned (.float .f64 r) ∧ ∃ m, w' = w.drewN m := by
  obtain ⟨n, k, d, h1, h2, h3, h4⟩ := share_parts h
  have g1 := run_add h1
  have g2 := run_add h2
  have g3 := run_add h3
  have g4 := run_div h4
  clear h h1 h2 h3 h4
  go_enter Yba.func19, Yba.ntmps19
  go_wp2_with fail
  go_quiet (fail)
  go_wp2
  go_ret
  exact ⟨rfl, _, rfl⟩

theorem cut_parts {S r c : Nat} (h : cutB S r = some c) : ∃ a b, Ieee.double.sub r S = some a ∧ Ieee.double.div r twoB = some b ∧ maxO a b = some c := by
  unfold cutB at h
  simp only [Option.bind_eq_bind, Option.bind_eq_some_iff] at h
  obtain ⟨n, h1, k, h2, h4⟩ := h
  exact ⟨n, k, h1, h2, h4⟩

set_option maxHeartbeats 3200000 in
set_option maxRecDepth 100000 in
theorem closure_call {S r c : Nat} (h : cutB S r = some c) (p : Addr) (w : World) (hp : w.cell? p = some (.float .f64 S)) :
    Calls Yba.prog 17 #[.float .f64 r, .pointer (some p)] w fun e w' => e = .returned (.float .f64 c) ∧ w' = w := by
  obtain ⟨a, b, h1, h2, h3⟩ := cut_parts h
  have g1 := run_sub h1
  have g2 := run_div h2
  have hc := max_call h3
  clear h h1 h2 h3
  go_enter Yba.func17, Yba.ntmps17
  go_wp2_with fail
  refine (hc _).mono ?_
  rintro e w1 ⟨rfl, rfl⟩
  go_wp2
  go_ret
  exact ⟨rfl, rfl⟩

end Go.Proofs.Ybulkuac
