import Derived.Test.YbulkuacOrd
import GoSem.Extern.MathLog
namespace Go.Proofs.Ybulkuac
open Go Ieee

/-- math.Log of a positive finite number, over any four operations. -/
def logM {m : Type → Type} [Monad m] {α : Type} (add sub mul div : Nat → Nat → m Nat) (fin : Nat → m α) (x : Nat) : m α := do
  let f1 := x % 2 ^ 52 + Extern.MathAsm.half
  let k := Extern.MathAsm.ofInt32 (Int.ofNat (x / 2 ^ 52) - 0x3FE)
  let small := !Extern.MathAsm.lt 0x3FE6A09E667F3BCD f1
  let k ← sub k (if small then Extern.MathAsm.one else 0)
  let a1 ← add (if small then Extern.MathAsm.one else 0) Extern.MathAsm.one
  let f1 ← mul f1 a1
  let f ← sub f1 Extern.MathAsm.one
  let a2 ← add Extern.MathAsm.two f
  let s ← div f a2
  let s2 ← mul s s
  let s4 ← mul s2 s2
  let b1 ← mul 0x3FC2F112DF3E5244 s4
  let b2 ← add b1 0x3FC7466496CB03DE
  let b3 ← mul b2 s4
  let b4 ← add b3 0x3FD2492494229359
  let b5 ← mul b4 s4
  let b6 ← add b5 0x3FE5555555555593
  let t1 ← mul s2 b6
  let c1 ← mul 0x3FC39A09D078C69F s4
  let c2 ← add c1 0x3FCC71C51D8E78AF
  let c3 ← mul c2 s4
  let c4 ← add c3 0x3FD999999997FA04
  let t2 ← mul s4 c4
  let r ← add t1 t2
  let h1 ← mul Extern.MathAsm.half f
  let hfsq ← mul h1 f
  let d1 ← add r hfsq
  let d2 ← mul s d1
  let d3 ← mul 0x3DEA39EF35793C76 k
  let inner ← add d2 d3
  let e1 ← mul k 0x3FE62E42FEE00000
  let e2 ← sub hfsq inner
  let e3 ← sub e2 f
  let r ← sub e1 e3
  fin r

def logB (x : Nat) : Option Nat := logM Ieee.double.add Ieee.double.sub Ieee.double.mul Ieee.double.div some x

theorem arith_some {op : BinOp} {x y r : Nat} (h : (op = .add ∧ Ieee.double.add x y = some r) ∨ (op = .sub ∧ Ieee.double.sub x y = some r) ∨ (op = .mul ∧ Ieee.double.mul x y = some r) ∨ (op = .quo ∧ Ieee.double.div x y = some r)) :
    Extern.MathAsm.arith op x y = pure r := by
  rcases h with ⟨rfl, h⟩ | ⟨rfl, h⟩ | ⟨rfl, h⟩ | ⟨rfl, h⟩
  all_goals
    have h' : (FloatKind.f64.format) = Ieee.double := rfl
    simp [Extern.MathAsm.arith, Op.floatArith, h', h]

theorem log_run {x r : Nat} (h0 : x % 2 ^ 63 ≠ 0) (h1 : x < 0x7FF0000000000000) (h : logB x = some r) :
    Extern.MathLog.archLog #[.float .f64 x] = pure (.float .f64 r) := by
  unfold logB logM at h
  simp only [Option.bind_eq_bind, Option.bind_eq_some_iff] at h
  obtain ⟨k, hk, a1, ha1, f1, hf1, f, hf, a2, ha2, s, hs, s2, hs2, s4, hs4, b1, hb1, b2, hb2, b3, hb3, b4, hb4, b5, hb5, b6, hb6, t1, ht1, c1, hc1, c2, hc2, c3, hc3, c4, hc4, t2, ht2, r', hr', g1, hg1, hfsq, hhfsq, d1, hd1, d2, hd2, d3, hd3, inner, hinner, e1, he1, e2, he2, e3, he3, e4, he4, h⟩ := h
  have A : ∀ {x y r : Nat}, Ieee.double.add x y = some r → Extern.MathAsm.add x y = pure r := fun h => arith_some (.inl ⟨rfl, h⟩)
  have S : ∀ {x y r : Nat}, Ieee.double.sub x y = some r → Extern.MathAsm.sub x y = pure r := fun h => arith_some (.inr (.inl ⟨rfl, h⟩))
  have M : ∀ {x y r : Nat}, Ieee.double.mul x y = some r → Extern.MathAsm.mul x y = pure r := fun h => arith_some (.inr (.inr (.inl ⟨rfl, h⟩)))
  have D : ∀ {x y r : Nat}, Ieee.double.div x y = some r → Extern.MathAsm.div x y = pure r := fun h => arith_some (.inr (.inr (.inr ⟨rfl, h⟩)))
  have c0 : (x % 2 ^ 63 == 0) = false := by simpa using h0
  have c1' : ¬ x ≥ 2 ^ 63 := by omega
  have c2' : ¬ x ≥ Extern.MathAsm.posInf := by
    unfold Extern.MathAsm.posInf; omega
  have e : Extern.MathLog.archLog #[.float .f64 x] = (if (x % 2 ^ 63 == 0) = true then pure (.float .f64 Extern.MathAsm.negInf) else if x ≥ 2 ^ 63 then pure (.float .f64 Extern.MathAsm.nan) else
      if x ≥ Extern.MathAsm.posInf then pure (.float .f64 x) else logM Extern.MathAsm.add Extern.MathAsm.sub Extern.MathAsm.mul Extern.MathAsm.div (fun r => pure (.float .f64 r)) x) := rfl
  rw [e, c0, if_neg (by decide), if_neg c1', if_neg c2']
  have h : e4 = r := Option.some.inj h
  rw [← h]
  clear h
  unfold logM
  simp only [pure_bind, S hk, A ha1, M hf1, S hf, A ha2, D hs, M hs2, M hs4, M hb1, A hb2, M hb3, A hb4, M hb5, A hb6, M ht1, M hc1, A hc2, M hc3, A hc4, M ht2, A hr', M hg1, M hhfsq, A hd1, M hd2, M hd3, A hinner, M he1, S he2, S he3, S he4]

/-- The number in units of the least place. -/
def fx (x : Nat) : Int := match Ieee.double.read x with
  | .number s m p => signed s m (p + 1074).toNat
  | _ => 0

def isN (x : Nat) : Bool := Ieee.double.read x matches .number ..

theorem vl_fx {x : Nat} (h : isN x = true) : Vl x ((fx x : Rat) * zp (-1074)) := by
  unfold isN at h
  unfold fx
  have hp : ∀ s m p, Ieee.double.read x = .number s m p → -1074 ≤ p := by
    intro s m p hr
    have hleast : Ieee.double.leastPlace = -1074 := by decide
    unfold Format.read at hr
    rw [hleast] at hr
    dsimp only at hr
    split at hr
    · injection hr; omega
    · split at hr
      · injection hr; omega
      · split at hr <;> injection hr
  generalize hd : Ieee.double.read x = d at *
  match d, h with
  | .number s m p, _ =>
    refine ⟨s, m, p, hd, ?_⟩
    have := signed_val s m p (-1074) (hp s m p rfl)
    rw [← this]
    congr 2

def facB (k : Nat) : Option Nat := Ieee.double.div (enc (1 + k)) (enc 100)

/-- The two logarithms are opposite, near enough. -/
def logOk (k : Nat) : Bool := match facB k with
  | some f => match logB f, Ieee.double.div 4607182418800017408 f with
    | some l1, some g => match logB g with
      | some l2 => f % 2 ^ 63 != 0 && decide (f < 0x7FF0000000000000) && (g % 2 ^ 63 != 0) && decide (g < 0x7FF0000000000000) && isN l1 && isN l2 &&
          decide (-(5 * 2 ^ 1074) ≤ fx l1) && decide (fx l1 ≤ 2 ^ 1074) && decide ((fx l1 + fx l2) * 10000000000000 ≤ 2 ^ 1074) && decide (-(2 ^ 1074) ≤ (fx l1 + fx l2) * 10000000000000)
      | none => false
    | _, _ => false
  | none => false

end Go.Proofs.Ybulkuac
