import Derived.Test.YbulkuacRows
import Derived.Test.YbulkuacFloat
import Derived.WalkKit
import Derived.WalkLawsBesides
import Derived.Below
namespace Go.Proofs.Ybulkuac
open Go.RowKit
set_option linter.unusedVariables false

theorem hid {p : Prop} (h : p) : Hid p := h

/-- A row of floats in memory. -/
def Fls (w : World) (a : Option Addr) (ls : List Nat) : Prop := ∀ i, i < ls.length → ∃ x, a = some x ∧ w.cell? (x.add i) = some (.float .f64 (ls.getD i 0))

set_option maxHeartbeats 1600000 in
set_option maxRecDepth 100000 in
theorem sum_any (a : Option Addr) (c : Nat) (ls : List Nat) (hl : ls.length ≤ 1024) (w : World) (hv : Fls w a ls) :
    Calls Yba.prog 16 #[.slice a ls.length c] w fun e w' => ∃ b q, e = .returned (.float .f64 b) ∧ Rep (fsum ls) b ∧ w' = w.drewN q := by
  go_enter Yba.func16, Yba.ntmps16
  go_wp2
  go_loopw [3, 8] (fun vs vi wr => ∃ k : Nat, k ≤ ls.length ∧ vi = .int .i64 k ∧ ∃ b q, vs = .float .f64 b ∧ Hid (Rep (fsum (ls.take k)) b) ∧ wr = w.drewN q) (fun _ vi _ => ls.length - (intOf vi).toNat)
  case atStart => exact ⟨0, Nat.zero_le _, rfl, 0, 0, rfl, rep_zero, rfl⟩
  case round =>
    obtain ⟨k, hk, rfl, b, q, rfl, HR, rfl⟩ := hrel
    by_cases hlt : k < ls.length
    · obtain ⟨x, rfl, hc⟩ := hv k hlt
      have hts : fsum (ls.take (k + 1)) = fstep (fsum (ls.take k)) (ls.getD k 0) := by
        rw [List.take_succ_eq_append_getElem hlt, fsum_snoc]; simp [hlt]
      have HT := hid hts
      clear hts hv
      generalize ls.getD k 0 = v at hc HT
      cases hadd : Ieee.double.add b v with
      | some r =>
        have hrun := fun W => run_float_arith (P := Yba.prog) W .add 27 .f64 b v r hadd
        have HN : Hid (Rep (fsum (ls.take (k + 1))) r) := by
          show Rep _ _
          rw [HT.out]
          rcases HR.out with ⟨h1, h2⟩ | ⟨h1, h2⟩
          · rw [h1]; exact .inl ⟨hadd, add_notNaN hadd⟩
          · rw [add_nan v h2] at hadd; cases hadd
        clear hadd
        go_wp2
        go_roundw
        case rel => exact ⟨k + 1, by omega, by go_num, r, q, rfl, HN, rfl⟩
        case measure => simp [intOf]; omega
      | none =>
        have hrun := fun W => run_add_none (P := Yba.prog) W 27 b v hadd
        have HN : ∀ W, Hid (Rep (fsum (ls.take (k + 1))) (nanAt W b v)) := by
          intro W
          show Rep _ _
          rw [HT.out]
          refine .inr ⟨?_, nanAt_nan W b v⟩
          rcases HR.out with ⟨h1, h2⟩ | ⟨h1, h2⟩
          · rw [h1]; exact hadd
          · rw [h1]; rfl
        clear hadd
        go_wp2
        go_roundw
        case rel => exact ⟨k + 1, by omega, by go_num, _, _, rfl, HN _, rfl⟩
        case measure => simp [intOf]; omega
    · go_wp2
      go_ret
      obtain rfl : k = ls.length := by omega
      have h := HR.out
      rw [List.take_length] at h
      exact ⟨b, q, rfl, h, rfl⟩

end Go.Proofs.Ybulkuac
