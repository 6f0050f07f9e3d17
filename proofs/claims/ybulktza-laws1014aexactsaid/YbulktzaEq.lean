import Derived.Test.YbulktzaPut
import Derived.BigQuiet
import Derived.Laws.AppendOwnNone
namespace Go.Proofs.Ybulktza.lawS1014AExact
open Go.RowKit

/-- A slice of numbers as it came in, read up to its length: the cells. -/
def Row (k : IntKind) (w : World) (a : Option Addr) (len cap : Nat) (zs : List Int) : Prop :=
  zs.length = len ∧ (a = none → len = 0 ∧ cap = 0) ∧ ∀ x, a = some x → ∀ i, i < len → w.cell? (x.add i) = some (.int k (zs.getD i 0))

set_option maxHeartbeats 1600000 in
/-- Two slices of the same bytes are equal: the only case that the law meets. -/
theorem eq_any (n ca cb : Nat) (a b : Option Addr) (zs : List Int) (hn : zs.length = n) (hlim : n ≤ 140737488355328) (w : World)
    (ha : ∀ i, i < zs.length → ∃ x, a = some ⟨x, 0, none⟩ ∧ w.cell? ⟨x, i, none⟩ = some (.int .u8 (zs.getD i 0)))
    (hb : ∀ i, i < zs.length → ∃ x, b = some ⟨x, 0, none⟩ ∧ w.cell? ⟨x, i, none⟩ = some (.int .u8 (zs.getD i 0))) :
    Calls Yba.prog 7 #[.slice a n ca, .slice b n cb] w fun e w' => e = .returned (.bool true) ∧ ∃ k, w' = w.drewN k := by
  subst hn
  go_enter Yba.func7, Yba.ntmps7
  go_wp2
  go_loopw [5] (fun vi wr => ∃ k : Nat, k ≤ zs.length ∧ vi = .int .i64 k ∧ ∃ m, wr = w.drewN m) (fun vi _ => zs.length - (intOf vi).toNat)
  case atStart => exact ⟨0, Nat.zero_le _, rfl, 0, rfl⟩
  case round =>
    obtain ⟨k, hk, rfl, m, rfl⟩ := hrel
    by_cases hlt : k < zs.length
    · obtain ⟨x, rfl, hcx⟩ := ha k hlt
      obtain ⟨y, rfl, hcy⟩ := hb k hlt
      clear ha hb
      obtain ⟨z, hz⟩ : ∃ z : Int, z = zs.getD k 0 := ⟨_, rfl⟩
      rw [← hz] at hcx hcy
      clear hz
      go_wp2
      go_quiet (fail)
      go_wp2
      go_roundw
      case rel => exact ⟨k + 1, by omega, by go_num, _, rfl⟩
      case measure => simp [intOf]; omega
    · go_wp2
      go_ret
      exact ⟨rfl, m, rfl⟩

/-- An owned row of bytes, as the slice that 'eq_any' asks for. -/
theorem own_cells {w : World} {B n : Nat} {v : Value} {zs : List Int} (h : w.ownsRow B 5 1 v n (zs.map (Value.int .u8))) :
    zs.length = n ∧ ∃ a cap, v = .slice a n cap ∧ ∀ i, i < zs.length → ∃ x, a = some ⟨x, 0, none⟩ ∧ w.cell? ⟨x, i, none⟩ = some (.int .u8 (zs.getD i 0)) := by
  have hl : zs.length = n := by simpa using h.1
  refine ⟨hl, ?_⟩
  rcases h.2 with ⟨rfl, hn⟩ | ⟨g, cap, cur, rfl, _, hg, _, _, _, ht⟩
  · exact ⟨none, 0, by rw [hn], fun i hi => by omega⟩
  · refine ⟨_, cap, rfl, fun i hi => ⟨g, rfl, ?_⟩⟩
    rw [cell_of_row w g i cur 5 (0, 0) hg]
    have h2 : (cur.toList.take (n * 1))[i]? = some (.int .u8 (zs.getD i 0)) := by rw [ht]; simp [hi]
    rw [List.getElem?_take] at h2
    split at h2
    · simpa using h2
    · cases h2

/-- 'append([]byte(nil), prefix...)': a copy in memory of the call's own. -/
theorem wpList_append_pre {w : World} {ops : Array Oper} {rest : List Oper} {o : Oper} {a : Act} {Q : Exit → Act → World → Prop} (hgd : o.guard = none) (s x : Operand)
    (ho : o.op = .call { callee := .builtin .append, args := #[s, x], argTypes := #[22, 22] })
    (base : Nat) (hbase : base ≤ w.heap.size) (a0 : Option Addr) (len0 cap0 : Nat) (zs : List Int) (hrow : Row .u8 w a0 len0 cap0 zs) (hlen : len0 ≤ 1024)
    (hs : a.eval s = .slice none 0 0) (hx : a.eval x = .slice a0 len0 cap0)
    (h : ∀ v' w', w'.ownsRow base 5 1 v' len0 (zs.map (Value.int .u8)) → w.grownBy w' none → wpList Yba.prog ops Q rest (a.put o.dst v') w') : wpList Yba.prog ops Q (o :: rest) a w := by
  obtain ⟨i0, hi, hz0, hz1, hz2⟩ := info_parts info5
  obtain ⟨hzl, hnone, hsome⟩ := hrow
  cases a0 with
  | none =>
    obtain ⟨rfl, rfl⟩ := hnone rfl
    have hz : zs = [] := List.eq_nil_of_length_eq_zero hzl
    subst hz
    exact wpList_append_own_none hgd s x 22 ho base 5 i0 1 Yba.underlying22 hi _ 0 [] hs (World.ownsRow_nil _ _ _ _) hx (h _ w (World.ownsRow_nil _ _ _ _) ⟨rfl, rfl, rfl, Nat.le_refl _, fun _ _ _ => rfl⟩)
  | some ad =>
    refine wpList_append_own w hgd s x 22 ho base 5 i0 (.int .u8 0) 1 1 Yba.underlying22 hi hz0 hz1 hz2 rfl (by decide) _ 0 [] hs (World.ownsRow_nil _ _ _ _) ad len0 cap0 (zs.map (Value.int .u8)) hx (by simp [hzl]) ?_ ?_ ?_ ?_ hbase ?_
    · intro j u hj
      have hjl : j < zs.length := by
        have := (List.getElem?_eq_some_iff.1 hj).1
        simpa using this
      have := hsome ad rfl j (by omega)
      rw [this]
      simp only [List.getElem?_map] at hj
      rw [List.getElem?_eq_getElem hjl] at hj
      simp at hj
      simp [hj, hjl]
    · intro u hu
      simp at hu
      obtain ⟨z, _, rfl⟩ := hu
      rfl
    · unfold maxLen; omega
    · omega
    · intro v' w' h1 h2 _
      simp only [Nat.zero_add, List.nil_append] at h1
      exact h v' w' h1 h2

end Go.Proofs.Ybulktza.lawS1014AExact
