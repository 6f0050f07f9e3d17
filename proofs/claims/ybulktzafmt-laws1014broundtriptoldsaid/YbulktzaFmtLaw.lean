import Derived.Test.YbulktzaFmtUn
import Derived.Test.YbulktzaFmtCopy
namespace Go.Proofs.YbulktzaFmt
open Go.RowKit
set_option linter.unusedVariables false

/-- What zzs1014bcopy hands back: nil, or a row of its own. -/
def IntoOk (B : Nat) (w : World) (ia : Option Addr) (il ic : Nat) : Prop :=
  (ia = none ∧ il = 0 ∧ ic = 0) ∨ ∃ b cur, ia = some ⟨b, 0, none⟩ ∧ il = ic ∧ w.heap[b]? = some (.cells cur 22 (0, 0)) ∧ cur.size = ic ∧ B ≤ b

theorem copy_any (a : Option Addr) (cap : Nat) (zs : List Nat) (hzl : zs.length ≤ 1024) (w : World) (ha : a = none → zs.length = 0 ∧ cap = 0) (hv : Vec w.heap.size w a zs) :
    Calls Ybaf.prog 8 #[.slice a zs.length cap] w fun e w' => ∃ ia il ic, e = .returned (.slice ia il ic) ∧ IntoOk w.heap.size w' ia il ic ∧ ic ≤ 1024 ∧ w.grownBy w' none := by
  cases a with
  | none =>
    obtain ⟨h1, rfl⟩ := ha rfl
    rw [h1]
    refine (copy_nil w).mono ?_
    rintro e w' ⟨rfl, rfl⟩
    exact ⟨none, 0, 0, rfl, .inl ⟨rfl, rfl, rfl⟩, by omega, gb_refl _ _⟩
  | some ad =>
    refine (copy_some ad cap zs hzl w hv).mono ?_
    rintro e w' ⟨rfl, cur, h1, h2, h3⟩
    exact ⟨_, _, _, rfl, .inr ⟨w.heap.size, cur, rfl, rfl, h1, h2, Nat.le_refl _⟩, hzl, h3⟩

/-- What decodeInto leaves: nil for no numbers; else a row with the numbers, the one decoded into where that has room. -/
def Got (zs : List Nat) (ia : Option Addr) (il t : Nat) (a : Option Addr) (l cp : Nat) (w : World) : Prop :=
  (zs.length = 0 ∧ a = none ∧ l = 0 ∧ cp = 0) ∨
  (0 < zs.length ∧ ∃ b, a = some ⟨b, 0, none⟩ ∧ l = zs.length ∧ zs.length ≤ cp ∧ Fill w b zs.length zs.length zs ∧ b ≠ t ∧ (zs.length ≤ il → ia = some ⟨b, 0, none⟩))

theorem Got.kp {zs : List Nat} {ia : Option Addr} {il t : Nat} {a : Option Addr} {l cp : Nat} {w w' : World} (h : Got zs ia il t a l cp w) (hk : Kp (fun k => k = t) w w') : Got zs ia il t a l cp w' := by
  rcases h with h | ⟨h0, b, h1, h2, h3, h4, h5, h6⟩
  · exact .inl h
  · refine .inr ⟨h0, b, h1, h2, h3, ?_, h5, h6⟩
    have hb : b < w.heap.size := World.block_lt_of_cell? w ⟨b, 0, none⟩ (h4.2 0 h0)
    exact h4.same (hk.block b hb h5)

theorem gb_weak {w w' : World} {row : Option Nat} (h : w.grownBy w' none) : w.grownBy w' row := ⟨h.os, h.tape, h.output, h.size, fun k hk _ => h.block k hk (by simp)⟩

/-- The three ways of decodeInto as one. -/
theorem dec_any (B g t : Nat) (zs : List Nat) (hz : ∀ z ∈ zs, z < 18446744073709551616) (hzl : zs.length ≤ 1024) (ia : Option Addr) (il ic : Nat) (hic : ic ≤ 1024) (w : World) (hg : g < w.heap.size) (ht : t < w.heap.size) (hi : IntoOk B w ia il ic) (hgi : ∀ b, ia = some ⟨b, 0, none⟩ → g ≠ b ∧ b ≠ t)
    (o1 c1 : Nat) (hl : Lies w g o1 (vars zs)) (hc : (vars zs).length ≤ c1) (hcm : c1 ≤ maxLen) :
    Calls Ybaf.prog 18 #[.agg #[.int .i64 zs.length, .slice (some ⟨g, o1, none⟩) (vars zs).length c1], .slice ia il ic] w fun e w' => ∃ a l cp, e = .returned (.slice a l cp) ∧ Got zs ia il t a l cp w' ∧ w.grownBy w' (ia.map Addr.block) := by
  by_cases h0 : zs.length = 0
  · rw [h0]
    refine (dec_zero _ _ w).mono ?_
    rintro e w' ⟨rfl, hgb⟩
    exact ⟨none, 0, 0, rfl, .inl ⟨h0, rfl, rfl, rfl⟩, gb_weak hgb⟩
  · by_cases hr : zs.length ≤ ic
    · rcases hi with ⟨_, _, rfl⟩ | ⟨b, cur, rfl, rfl, hb, hcur, _⟩
      · omega
      · have hbl : b < w.heap.size := (Array.getElem?_eq_some_iff.1 hb).1
        refine (dec_room g o1 _ c1 zs hz hzl (by omega) rfl hc hcm b il il hr (Nat.le_refl _) (by unfold maxLen; omega) w hg hbl (hgi b rfl).1 hl (Fill.of_block hb (by omega) zs)).mono ?_
        rintro e w' ⟨rfl, hf, hgb⟩
        exact ⟨_, _, _, rfl, .inr ⟨by omega, b, rfl, rfl, hr, hf, (hgi b rfl).2, fun _ => rfl⟩, hgb⟩
    · have hai : ia = none → il = 0 ∧ ic = 0 := by
        intro h
        rcases hi with ⟨_, h1, h2⟩ | ⟨b, cur, h1, _⟩
        · exact ⟨h1, h2⟩
        · rw [h] at h1; cases h1
      have hli : il ≤ ic := by
        rcases hi with ⟨_, h1, h2⟩ | ⟨b, cur, h1, h2, _⟩ <;> omega
      refine (dec_new g o1 _ c1 zs hz hzl (by omega) rfl hc hcm ia il ic (by omega) hli hai w hg hl).mono ?_
      rintro e w' ⟨b, rfl, hb, hf, hgb⟩
      exact ⟨_, _, _, rfl, .inr ⟨by omega, b, rfl, rfl, Nat.le_refl _, hf, by omega, fun h => by omega⟩, gb_weak hgb⟩

set_option maxHeartbeats 1600000 in
set_option maxRecDepth 100000 in
theorem walk_long (a0 : Int) (a1 : Option Addr) (len1 cap1 : Nat) (a2 : Option Addr) (len2 cap2 : Nat) (w : World) (h1 : len1 ≤ maxLen) (h2 : len2 ≤ maxLen) (h : 1024 < len1 ∨ 1024 < len2) :
    Calls Ybaf.prog 3 #[.int .u64 a0, .slice a1 len1 cap1, .slice a2 len2 cap2] w fun e w' => e = .returned (.bool true) ∧ Below w.heap.size w w' := by
  unfold maxLen at h1 h2
  by_cases hl : 1024 < len1
  · go_enter Ybaf.func3, Ybaf.ntmps3
    go_wp2
    go_ret
    exact ⟨rfl, Below.refl _ _⟩
  · have hl2 : 1024 < len2 := by omega
    clear h
    go_enter Ybaf.func3, Ybaf.ntmps3
    go_wp2
    go_ret
    exact ⟨rfl, Below.refl _ _⟩

/-- An owned row of bytes, as bytes that lie in memory. -/
theorem own_lies {w : World} {B n : Nat} {v : Value} {l : List UInt8} (h : w.ownsRow B 5 1 v n (Lib.byteCells l)) (hn : 0 < n) :
    ∃ g c, v = .slice (some ⟨g, 0, none⟩) n c ∧ B ≤ g ∧ g < w.heap.size ∧ n ≤ c ∧ c ≤ maxLen ∧ l.length = n ∧ Lies w g 0 l := by
  have hl : l.length = n := by simpa [Lib.byteCells] using h.1
  rcases h.2 with ⟨rfl, h0⟩ | ⟨g, cap, cur, rfl, hB, hg, hnc, hcm, _, ht⟩
  · omega
  · refine ⟨g, cap, rfl, hB, (Array.getElem?_eq_some_iff.1 hg).1, hnc, hcm, hl, fun j hj => ?_⟩
    rw [Nat.zero_add, cell_of_row w g j cur 5 (0, 0) hg]
    have h2 : (cur.toList.take (n * 1))[j]? = some (.int .u8 ((l[j]).toNat : Int)) := by rw [ht]; simp [Lib.byteCells, hj]
    rw [List.getElem?_take] at h2
    split at h2
    · simpa using h2
    · cases h2

end Go.Proofs.YbulktzaFmt
