import Derived.Test.YbulktzaFmtWalk
import Derived.Test.YbulktzaFmtTie
import Derived.Test.YbulktzaFmtCards
import Derived.ProofKit
import Derived.OpenShut
import Derived.ChangeOld
import Derived.LaidMore
import Derived.Stop.JoinedTold
import Derived.Stop.LaidErr
import Derived.SevenTiedAt
import Derived.WalkSmall
namespace Go.Proofs.YbulktzaFmt
open Go.ChangeShapes Go.WideShapes Go.ChangeAt Go.RowKit
open Go.Extern.Stop Go.Stop Go.Extern
set_option linter.unusedVariables false

theorem own : ownKnob Ybaf.prog.godebug = none := by kernel_rfl
theorem laidOut : laidOutB Ybaf.prog = true := by kernel_rfl
theorem laidOutP : laidOutB Ybaf.pinned.checked.prog = true := by kernel_rfl
theorem stopsAre : Ybaf.pinned.checked.prog.stops = ["fmt.errorf"] := by kernel_rfl
theorem stopKnobsAre : Ybaf.pinned.checked.prog.stopKnobs = [] := by kernel_rfl
theorem quietAt (os : Os) : Stop.quiet Ybaf.pinned.checked.prog os := by
  intro k hk
  rw [stopKnobsAre] at hk
  cases hk

theorem gt0 : (Ybaf.prog.globals[0]?).map (·.type) = some 31 := by kernel_rfl
theorem gt1 : (Ybaf.prog.globals[1]?).map (·.type) = some 31 := by kernel_rfl
theorem gt2 : (Ybaf.prog.globals[2]?).map (·.type) = some 31 := by kernel_rfl
theorem gt3 : (Ybaf.prog.globals[3]?).map (·.type) = some 31 := by kernel_rfl
theorem cells90 : Ybaf.prog.cellsOf 90 = 1 := by kernel_rfl
theorem cells9 : Ybaf.prog.cellsOf 9 = 1 := by kernel_rfl
theorem row88 (nm : String) (hnm : ∀ u, Ybaf.prog.typeName? 3 u = some nm → Ybaf.prog.typeName? 3 u = Ybaf.prog.typeName? 3 88) (u : TypeId) (h : Ybaf.prog.typeName? 3 u = some nm) : u = 88 :=
  typeName_ptr_named (nm := "errors.errorString") (by kernel_rfl) (by kernel_rfl) (by decide) u ((hnm u h).trans (by kernel_rfl))

theorem door_met (os : Os) (args : Array Value) : laidMet Ybaf.prog Rows.lawS1014BRoundTripRow.laid ((World.doorLaid Ybaf.prog 400 os).forCall (fun _ _ => 0) ⟨#[], args, []⟩).memory :=
  laidMet_of_run' 8 (by kernel_rfl) (by kernel_rfl)

theorem vars_read4 {H : Type} (enc : TypeId × Value → H) {W : World} {x0 x1 x2 x3 : Value} {n0 n1 n2 n3 : String} (g0 : Ybaf.prog.globalNamed n0 = some 0) (g1 : Ybaf.prog.globalNamed n1 = some 1) (g2 : Ybaf.prog.globalNamed n2 = some 2) (g3 : Ybaf.prog.globalNamed n3 = some 3)
    (h0 : W.var? Ybaf.prog n0 = some #[x0]) (h1 : W.var? Ybaf.prog n1 = some #[x1]) (h2 : W.var? Ybaf.prog n2 = some #[x2]) (h3 : W.var? Ybaf.prog n3 = some #[x3])
    (i0 : IsIface x0) (i1 : IsIface x1) (i2 : IsIface x2) (i3 : IsIface x3) (sp : Nat → Bool) :
    DataW.TrodVars enc Ybaf.prog W sp [n0, n1, n2, n3] [tok enc x0, tok enc x1, tok enc x2, tok enc x3] [.cell 0 0, .cell 1 0, .cell 2 0, .cell 3 0] :=
  ⟨0, 31, #[x0], 1, [], [.cell 1 0, .cell 2 0, .cell 3 0], g0, gt0, h0, trod_held Ybaf.underlying31 i0 0,
    ⟨1, 31, #[x1], 1, [], [.cell 2 0, .cell 3 0], g1, gt1, h1, trod_held Ybaf.underlying31 i1 0,
      ⟨2, 31, #[x2], 1, [], [.cell 3 0], g2, gt2, h2, trod_held Ybaf.underlying31 i2 0,
        ⟨3, 31, #[x3], 1, [], [], g3, gt3, h3, trod_held Ybaf.underlying31 i3 0, rfl, rfl⟩, rfl⟩, rfl⟩, rfl⟩

/-- WHAT THE WALK IS TOLD OF A SLICE OF NUMBERS THAT CAME IN. -/
def IsRow (w : World) (a : Option Addr) (len cap : Nat) (zs : List Int) : Prop :=
  (a = none ∧ len = 0 ∧ cap = 0 ∧ zs = []) ∨
  ∃ x, a = some x ∧ len ≤ cap ∧ cap ≤ maxLen ∧ zs.length = cap ∧ (∀ i, i < zs.length → w.cell? (x.add i) = some (.int .u64 (zs.getD i 0))) ∧ ∀ n ∈ zs, (Lit.int .u64 n).wf = true

theorem IsRow.vec {w : World} {a : Option Addr} {len cap : Nat} {zs : List Int} (h : IsRow w a len cap zs) :
    len ≤ maxLen ∧ ((zs.take len).map Int.toNat).length = len ∧ (a = none → len = 0 ∧ cap = 0) ∧ (∀ z ∈ (zs.take len).map Int.toNat, z < 18446744073709551616) ∧ Vec w.heap.size w a ((zs.take len).map Int.toNat) := by
  rcases h with ⟨rfl, rfl, rfl, rfl⟩ | ⟨x, rfl, h1, h2, h3, h4, h5⟩
  · exact ⟨Nat.zero_le _, rfl, fun _ => ⟨rfl, rfl⟩, fun z hz => by simp at hz, fun i hi => by simp at hi⟩
  · have hl : ((zs.take len).map Int.toNat).length = len := by rw [List.length_map, List.length_take]; omega
    refine ⟨by omega, hl, fun h => (by cases h), fun z hz => ?_, fun i hi => ?_⟩
    · rw [List.mem_map] at hz
      obtain ⟨y, hy, rfl⟩ := hz
      have := bounds_u64 (h5 y (List.mem_of_mem_take hy))
      omega
    · rw [hl] at hi
      have hiz : i < zs.length := by omega
      have hc := h4 i hiz
      refine ⟨x, rfl, ?_, ?_⟩
      · have := World.block_lt_of_cell? w _ hc
        unfold Addr.add at this; split at this <;> simpa using this
      · have hb := bounds_u64 (h5 (zs[i]) (by simp))
        have e : (((zs.take len).map Int.toNat).getD i 0 : Nat) = (zs[i]).toNat := by simp [List.getD_eq_getElem?_getD, hi, hiz]
        rw [hc, e, Int.toNat_of_nonneg hb.1]
        simp [List.getD_eq_getElem?_getD, hiz]

theorem walk (a0 : Int) (a1 : Option Addr) (len1 cap1 : Nat) (z1 : List Int) (a2 : Option Addr) (len2 cap2 : Nat) (z2 : List Int) (w : World) (w0 : (Lit.int .u64 a0).wf = true) (w1 : IsRow w a1 len1 cap1 z1) (w2 : IsRow w a2 len2 cap2 z2) :
    Calls Ybaf.prog 3 #[.int .u64 a0, .slice a1 len1 cap1, .slice a2 len2 cap2] w fun e w' => e = .returned (.bool true) ∧ Below w.heap.size w w' := by
  have c0 := bounds_u64 w0
  obtain ⟨m1, l1, n1, b1, v1⟩ := w1.vec
  obtain ⟨m2, l2, n2, b2, v2⟩ := w2.vec
  by_cases hlong : 1024 < len1 ∨ 1024 < len2
  · exact walk_long a0 a1 len1 cap1 a2 len2 cap2 w m1 m2 hlong
  · have hw := walk_short a0.toNat (by omega) a1 cap1 _ b1 (by omega) a2 cap2 _ (by omega) w v1 (by rw [l2]; exact n2) v2
    rw [Int.toNat_of_nonneg c0.1, l1, l2] at hw
    exact hw

end Go.Proofs.YbulktzaFmt
