import Derived.Test.YbulktzaFmtRows
import Derived.Test.YbulktzaFmtPlain
import Derived.WalkKit
import Derived.WalkLawsBesides
import Derived.BigQuiet
namespace Go.Proofs.YbulktzaFmt
open Go.RowKit
set_option linter.unusedVariables false

/-- The bytes l lie in memory from ⟨g, o⟩ on. -/
def Lies (w : World) (g o : Nat) (l : List UInt8) : Prop := ∀ j (hj : j < l.length), w.cell? ⟨g, o + j, none⟩ = some (.int .u8 ((l[j]).toNat : Int))

theorem Lies.left {w : World} {g o : Nat} {l r : List UInt8} (h : Lies w g o (l ++ r)) : Lies w g o l := by
  intro j hj
  have := h j (by simp; omega)
  rw [List.getElem_append_left hj] at this
  exact this

theorem Lies.right {w : World} {g o : Nat} {l r : List UInt8} (h : Lies w g o (l ++ r)) : Lies w g (o + l.length) r := by
  intro j hj
  have := h (l.length + j) (by simp; omega)
  rw [List.getElem_append_right (by omega)] at this
  simpa [Nat.add_assoc] using this

theorem Lies.same {w w' : World} {g o : Nat} {l : List UInt8} (h : Lies w g o l) (hb : w'.heap[g]? = w.heap[g]?) : Lies w' g o l := by
  intro j hj
  rw [← h j hj]
  exact World.cell?_of_block (w := w) hb

set_option maxHeartbeats 1600000 in
set_option maxRecDepth 100000 in
/-- varintLen on bytes that open with x's varint. -/
theorem vlen_any (g o n c x : Nat) (hx : x < 18446744073709551616) (hn : (Lib.uvarint x).length ≤ n) (hm : n ≤ maxLen) (w : World) (hl : Lies w g o (Lib.uvarint x)) :
    Calls Ybaf.prog 28 #[.slice (some ⟨g, o, none⟩) n c] w fun e w' => e = .returned (.tuple #[.int .i64 (Lib.uvarint x).length, .nilIface]) ∧ w' = w := by
  unfold maxLen at hm
  have hlen := Lib.uvarint_length64 hx
  have hpos := Lib.uvarint_pos x
  obtain ⟨L, hL⟩ : ∃ L, L = (Lib.uvarint x).length := ⟨_, rfl⟩
  rw [← hL] at hlen hpos hn ⊢
  have HL : Hid (L = (Lib.uvarint x).length) := hL
  clear hL
  go_enter Ybaf.func28, Ybaf.ntmps28
  go_wp2
  go_loop [8] (fun vi => ∃ k : Nat, k < L ∧ vi = .int .i64 k) (fun vi => n - (intOf vi).toNat)
  case atStart => exact ⟨0, by omega, rfl⟩
  case round =>
    obtain ⟨k, hk, rfl⟩ := hrel
    have hkL : k < (Lib.uvarint x).length := by rw [← HL.out]; exact hk
    have hc := hl k hkL
    have hg := uv_get x k hkL
    rw [← HL.out] at hg
    have hlp := uv_last_pos x k
    rw [← HL.out] at hlp
    have ht := uv_tenth x hx
    generalize ((Lib.uvarint x)[k]).toNat = b at hc hg
    have hb : b < 256 := by
      by_cases hlast : k + 1 = L
      · have := hg.2 hlast; omega
      · have := hg.1 (by omega); omega
    by_cases hlast : k + 1 = L
    · have h1 : b < 128 := by have := hg.2 hlast; omega
      have h2 : k = 9 → b ≤ 1 := fun h => by have := (hg.2 hlast).2; subst h; omega
      have h3 : 0 < k → 0 < b := fun h => by have := (hg.2 hlast).2; have := hlp hlast h; omega
      clear hg hlp ht hl hkL hx
      obtain rfl : L = k + 1 := by omega
      clear hlast
      rcases (show k = 0 ∨ (0 < k ∧ k < 9) ∨ k = 9 by omega) with rfl | ⟨hk0, hk9⟩ | rfl
      · clear h2 h3
        rw [Nat.add_zero] at hc
        go_wp2
        go_ret2
        exact ⟨rfl, rfl⟩
      · have h3' := h3 hk0
        clear h2 h3
        have hk9' : ((k : Int) == 9) = false := beq_eq_false_iff_ne.2 (by omega)
        have hk10 : ((k : Int) == 10) = false := beq_eq_false_iff_ne.2 (by omega)
        have hb0 : ((b : Int) == 0) = false := beq_eq_false_iff_ne.2 (by omega)
        go_wp2
        go_ret2
        exact ⟨rfl, rfl⟩
      · have h2' := h2 rfl
        have h3' := h3 (by omega)
        clear h2 h3
        have hb0 : ((b : Int) == 0) = false := beq_eq_false_iff_ne.2 (by omega)
        go_wp2
        go_ret2
        exact ⟨rfl, rfl⟩
    · have h1 : 128 ≤ b := by have := hg.1 (by omega); omega
      clear hg hlp ht hl hkL hx
      have hk10 : ((k : Int) == 10) = false := beq_eq_false_iff_ne.2 (by omega)
      go_wp2
      go_round
      case rel => exact ⟨k + 1, by omega, by go_num⟩
      case measure => simp [intOf]; omega

set_option maxHeartbeats 1600000 in
set_option maxRecDepth 100000 in
/-- binary.Uvarint on just x's varint. -/
theorem uv_any (g o c x : Nat) (hx : x < 18446744073709551616) (w : World) (hl : Lies w g o (Lib.uvarint x)) :
    Calls Ybaf.prog 29 #[.slice (some ⟨g, o, none⟩) (Lib.uvarint x).length c] w fun e w' => e = .returned (.tuple #[.int .u64 x, .int .i64 (Lib.uvarint x).length]) ∧ w' = w := by
  have hlen := Lib.uvarint_length64 hx
  have hpos := Lib.uvarint_pos x
  obtain ⟨L, hL⟩ : ∃ L, L = (Lib.uvarint x).length := ⟨_, rfl⟩
  rw [← hL] at hlen hpos ⊢
  have HL : Hid (L = (Lib.uvarint x).length) := hL
  clear hL
  go_enter Ybaf.func29, Ybaf.ntmps29
  go_wp2
  go_loop [4, 5, 10] (fun vx vs vi => ∃ k : Nat, k < L ∧ vi = .int .i64 k ∧ vs = .int .u64 ((7 * k : Nat) : Int) ∧ vx = .int .u64 ((x % 128 ^ k : Nat) : Int)) (fun _ _ vi => L - (intOf vi).toNat)
  case atStart => exact ⟨0, by omega, rfl, rfl, by simp [Nat.mod_one]⟩
  case round =>
    obtain ⟨k, hk, rfl, rfl, rfl⟩ := hrel
    have hkL : k < (Lib.uvarint x).length := by rw [← HL.out]; exact hk
    have hc := hl k hkL
    have hg := uv_get x k hkL
    rw [← HL.out] at hg
    have ht := uv_tenth x hx
    generalize ((Lib.uvarint x)[k]).toNat = b at hc hg
    have hb : b < 256 := by
      by_cases hlast : k + 1 = L
      · have := hg.2 hlast; omega
      · have := hg.1 (by omega); omega
    have hmod : x % 128 ^ k < 128 ^ k := Nat.mod_lt _ (Nat.pow_pos (by decide))
    have hp := pow_lt k (by omega)
    generalize hacc : x % 128 ^ k = acc at hmod
    have HA : Hid (x % 128 ^ k = acc) := hacc
    clear hacc
    by_cases hlast : k + 1 = L
    · obtain ⟨h1, h2⟩ := hg.2 hlast
      have h3 : k = 9 → b ≤ 1 := fun h => by subst h; omega
      obtain rfl : L = k + 1 := by omega
      clear hg ht hl hkL hlast
      have hb1 : b < 128 := by omega
      have HO : Hid (bits .or .u64 (acc : Int) (IntKind.u64.wrap ((b : Int) * 2 ^ (7 * k))) = (x : Int)) := by
        show _ = _
        rw [← HA.out, h2]; exact or_last x k hx (by omega)
      have hk10 : ((k : Int) == 10) = false := beq_eq_false_iff_ne.2 (by omega)
      by_cases hk9 : k = 9
      · subst hk9
        have h3' := h3 rfl
        have HO9 : Hid (bits .or .u64 (acc : Int) ((b : Int) * 9223372036854775808) = (x : Int)) := by
          show _ = _
          rw [← HA.out, h2]; exact or_last9 x hx
        clear h3 h2 h1 hx HO
        go_wp2
        go_ret2
        exact ⟨by rw [HO9.out]; rfl, rfl⟩
      · have hk9' : ((k : Int) == 9) = false := beq_eq_false_iff_ne.2 (by omega)
        clear h3 hk9 h2 h1 hx
        go_wp2
        go_ret2
        exact ⟨by rw [HO.out]; rfl, rfl⟩
    · obtain ⟨h0, h2⟩ := hg.1 (by omega)
      have h1 : 128 ≤ b := by omega
      have hk9 : k < 9 := by omega
      have HM : Hid (bits .or .u64 (acc : Int) (IntKind.u64.wrap (IntKind.u64.wrap (bits .and .u8 (b : Int) 127) * 2 ^ (7 * k))) = ((x % 128 ^ (k + 1) : Nat) : Int)) := by
        show _ = _
        rw [← HA.out]; exact or_mid x k b hk9 h2
      clear hg ht hl hkL hx h2 h0
      have hk10 : ((k : Int) == 10) = false := beq_eq_false_iff_ne.2 (by omega)
      go_wp2
      go_round
      case rel => exact ⟨k + 1, by omega, by go_num, by go_num, by rw [HM.out]⟩
      case measure => simp [intOf]; omega

end Go.Proofs.YbulktzaFmt
