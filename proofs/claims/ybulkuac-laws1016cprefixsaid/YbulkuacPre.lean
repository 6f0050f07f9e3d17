import Derived.Test.YbulkuacSum
import Derived.Deep.RegionWith
namespace Go.Proofs.Ybulkuac
open Go.RowKit
set_option linter.unusedVariables false

/-- What '+' gives in the world W, and the world behind it. -/
def addAt (W : World) (x y : Nat) : Nat := match Ieee.double.add x y with | some r => r | none => nanAt W x y
def addW (W : World) (x y : Nat) : World := match Ieee.double.add x y with | some _ => W | none => W.drew

theorem run_add_any {P : Program} (W : World) (t : TypeId) (x y : Nat) : (binOp .add t (.float .f64 x) (.float .f64 y)).run P W = .ok (.float .f64 (addAt W x y)) (addW W x y) := by
  unfold addAt addW
  cases h : Ieee.double.add x y with
  | some r => exact run_float_arith W .add t .f64 x y r h
  | none => exact run_add_none W t x y h

theorem addW_drew (W : World) (x y : Nat) : ∃ m, addW W x y = W.drewN m := by
  unfold addW
  cases h : Ieee.double.add x y with
  | some r => exact ⟨0, rfl⟩
  | none => exact ⟨1, rfl⟩

theorem rep_add {o : Option Nat} {x : Nat} (W : World) (y : Nat) (h : Rep o x) : Rep (fstep o y) (addAt W x y) := by
  unfold addAt
  rcases h with ⟨rfl, h2⟩ | ⟨rfl, h2⟩
  · cases ha : Ieee.double.add x y with
    | some r => exact .inl ⟨ha, add_notNaN ha⟩
    | none => exact .inr ⟨ha, nanAt_nan W x y⟩
  · rw [add_nan y h2]
    exact .inr ⟨rfl, nanAt_nan W x y⟩

theorem order_nan {x : Nat} (y : Nat) (h : (Ieee.double.read x).isNaN = true) : Ieee.double.order x y = none := by
  unfold Ieee.Format.order
  cases hd : Ieee.double.read x with
  | nan s t => rfl
  | infinity s => rw [hd] at h; cases h
  | number s m p => rw [hd] at h; cases h

set_option maxHeartbeats 1600000 in
set_option maxRecDepth 100000 in
theorem pre_long (a : Option Addr) (len cap : Nat) (w : World) (hm : len ≤ maxLen) (h : 1024 < len) :
    Calls Yba.prog 6 #[.slice a len cap] w fun e w' => e = .returned (.bool true) ∧ Below w.heap.size w w' := by
  unfold maxLen at hm
  go_enter Yba.func6, Yba.ntmps6
  go_wp2
  go_ret
  exact ⟨rfl, Below.refl _ _⟩

set_option maxHeartbeats 1600000 in
set_option maxRecDepth 100000 in
theorem pre_zero (a : Option Addr) (cap : Nat) (w : World) :
    Calls Yba.prog 6 #[.slice a 0 cap] w fun e w' => e = .returned (.bool true) ∧ Below w.heap.size w w' := by
  have hS := sum_any a cap [] (by decide) w (fun i hi => by simp at hi)
  go_enter Yba.func6, Yba.ntmps6
  go_wp2_with fail
  refine hS.mono ?_
  rintro e w1 ⟨b, q, rfl, hR, rfl⟩
  have hb : b = 0 := by
    rcases hR with ⟨h1, _⟩ | ⟨h1, _⟩
    · cases h1; rfl
    · cases h1
  subst hb
  have hord : (FloatKind.f64.format.order 0 0 == some .eq) = true := by decide
  clear hR hS
  go_wp2
  go_ret
  exact ⟨rfl, below_drewN (Below.refl _ _) q⟩

set_option maxHeartbeats 3200000 in
set_option maxRecDepth 100000 in
theorem pre_some (x : Addr) (cap : Nat) (ls : List Nat) (v : Nat) (hl : ls.length ≤ 1023) (hc1 : ls.length + 1 ≤ cap) (hcm : cap ≤ maxLen) (w : World) (hv : Fls w (some x) (ls ++ [v])) :
    Calls Yba.prog 6 #[.slice (some x) (ls.length + 1) cap] w fun e w' => e = .returned (.bool true) ∧ Below w.heap.size w w' := by
  have hS := sum_any (some x) cap (ls ++ [v]) (by simp; omega) w hv
  rw [List.length_append, List.length_singleton, fsum_snoc] at hS
  have hlast : w.cell? (x.add ls.length) = some (.float .f64 v) := by
    obtain ⟨y, hy, hc⟩ := hv ls.length (by simp)
    cases hy
    simpa using hc
  have hS2 : Hid (∀ W, W.heap = w.heap → Calls Yba.prog 16 #[.slice (some x) ls.length cap] W fun e w' => ∃ b q, e = .returned (.float .f64 b) ∧ Rep (fsum ls) b ∧ w' = W.drewN q) := by
    intro W hW
    refine sum_any (some x) cap ls (by omega) W ?_
    intro i hi
    obtain ⟨y, hy, hc⟩ := hv i (by simp; omega)
    cases hy
    refine ⟨x, rfl, ?_⟩
    have : W.cell? (x.add i) = w.cell? (x.add i) := by simp [World.cell?, hW]
    rw [this, hc]
    rw [List.getD_eq_getElem?_getD, List.getD_eq_getElem?_getD, List.getElem?_append_left hi]
  have hrun := fun (W : World) (p q : Nat) => run_add_any (P := Yba.prog) W 27 p q
  clear hv
  obtain ⟨n, hn⟩ : ∃ n, n = ls.length := ⟨_, rfl⟩
  rw [← hn] at hS hlast hS2 hl hc1 ⊢
  clear hn
  have e1 : (n : Int) + 1 - 1 = n := by omega
  have e2 : n ≤ cap := by omega
  have hwr : IntKind.i64.wrap (n : Int) = (n : Int) := by rw [IntKind.wrap_i64]; omega
  have e4 : (n : Int) ≤ cap := by omega
  have e3 : ((n : Int) + 1 == 0) = false := beq_eq_false_iff_ne.2 (by omega)
  have hmx : cap ≤ 9223372036854775807 := hcm
  clear hcm
  go_enter Yba.func6, Yba.ntmps6
  go_wp2_with fail
  refine hS.mono ?_
  rintro e w1 ⟨b, q, rfl, hR, rfl⟩
  have HR := hid hR
  clear hR hS
  go_wp2_with fail
  go_region_with (go_at_call 16; refine (hS2.out _ (by rfl)).mono ?_; rintro e w2 ⟨b1, q1, rfl, hR1, rfl⟩)
  all_goals
    have hQ : ∀ W, Rep (fstep (fsum ls) v) (addAt W b1 v) := fun W => rep_add W v hR1
    have hB : ∀ m, Below w.heap.size w (addW (w.drewN m) b1 v) := by
      intro m
      obtain ⟨k, hk⟩ := addW_drew (w.drewN m) b1 v
      rw [hk]
      exact below_drewN (below_drewN (Below.refl _ _) m) k
    have HB := hid hB
    rcases HR.out with ⟨h1, h2⟩ | ⟨h1, h2⟩
    · have hAt : ∀ W, addAt W b1 v = b := by
        intro W
        rcases hQ W with ⟨h3, _⟩ | ⟨h3, _⟩
        · rw [h1] at h3; exact (Option.some.inj h3).symm
        · rw [h1] at h3; cases h3
      have hord : (FloatKind.f64.format.order b b == some .eq) = true := by rw [beq_iff_eq]; exact order_self h2
      clear hQ h1 h2 HR hR1 hrun hB
      go_wp2
      go_ret
      exact ⟨rfl, HB.out _⟩
    · have ho1 : ∀ y, FloatKind.f64.format.order b y = none := fun y => order_nan y h2
      have ho2 : ∀ W y, FloatKind.f64.format.order (addAt W b1 v) y = none := by
        intro W y
        rcases hQ W with ⟨h3, _⟩ | ⟨_, h4⟩
        · rw [h1] at h3; cases h3
        · exact order_nan y h4
      clear hQ h1 h2 HR hR1 hrun hB
      go_wp2
      go_ret
      exact ⟨rfl, HB.out _⟩

end Go.Proofs.Ybulkuac
