/-
  PLAIN: terms and formulas as trees of a bounded depth; what they cost; what is written of them. No Go in sight.
-/
import Derived.Lib.ItoaLen
namespace Go.Proofs.Qxb6601988aDoor

def sumTo (g : Nat → Nat) : Nat → Nat
  | 0 => 0
  | k + 1 => sumTo g k + g k
def catTo (g : Nat → List UInt8) : Nat → List UInt8
  | 0 => []
  | k + 1 => catTo g k ++ g k
theorem cat_le {g : Nat → List UInt8} {c : Nat → Nat} : ∀ k, (∀ i, i < k → (g i).length ≤ c i) → (catTo g k).length ≤ sumTo c k
  | 0, _ => Nat.le_refl _
  | k + 1, h => by
    have h1 := cat_le k (fun i hi => h i (by omega))
    have h2 := h k (by omega)
    simp only [catTo, sumTo, List.length_append]
    omega
theorem sum_le {c : Nat → Nat} {j : Nat} : ∀ k, j ≤ k → sumTo c j ≤ sumTo c k
  | 0, h => by
    have : j = 0 := by omega
    subst this
    exact Nat.le_refl _
  | k + 1, h => by
    by_cases e : j = k + 1
    · subst e; exact Nat.le_refl _
    · have := sum_le (c := c) k (show j ≤ k by omega)
      simp only [sumTo]
      omega
theorem sum_ge {c : Nat → Nat} {m : Nat} (h : ∀ i, m ≤ c i) : ∀ k, m * k ≤ sumTo c k
  | 0 => by simp [sumTo]
  | k + 1 => by
    have h1 := sum_ge h k
    have h2 := h k
    simp only [sumTo]
    rw [Nat.mul_succ]
    omega
theorem sum_at {c : Nat → Nat} {i : Nat} : ∀ k, i < k → c i ≤ sumTo c k
  | 0, h => by omega
  | k + 1, h => by
    simp only [sumTo]
    by_cases e : i = k
    · subst e; omega
    · have := sum_at (c := c) k (show i < k by omega)
      omega

structure TNode (α : Type) where
  sym : Option ByteArray
  v : Int
  k : Nat
  kid : Nat → α
structure FNode (α β : Type) where
  op : Int
  sym : Option ByteArray
  ka : Nat
  arg : Nat → α
  kx : Nat
  sub : Nat → β
def Tm : Nat → Type
  | 0 => Unit
  | n + 1 => TNode (Tm n)
def Fm : Nat → Type
  | 0 => Unit
  | n + 1 => FNode (Tm n) (Fm n)
def tnode {n : Nat} (t : Tm (n + 1)) : TNode (Tm n) := t
def fnode {n : Nat} (t : Fm (n + 1)) : FNode (Tm n) (Fm n) := t

def symCost : Option ByteArray → Nat
  | none => 0
  | some s => 16 + s.size
def symText : Option ByteArray → List UInt8
  | none => []
  | some s => s.data.toList

def costT : (n : Nat) → Tm n → Nat
  | 0, _ => 40
  | n + 1, t => 40 + symCost (tnode t).sym + sumTo (fun i => costT n ((tnode t).kid i)) (tnode t).k
def costF : (n : Nat) → Fm n → Nat
  | 0, _ => 72
  | n + 1, t => 72 + symCost (fnode t).sym + sumTo (fun i => costT n ((fnode t).arg i)) (fnode t).ka + sumTo (fun i => costF n ((fnode t).sub i)) (fnode t).kx
def textT : (n : Nat) → Tm n → List UInt8
  | 0, _ => []
  | n + 1, t => match (tnode t).sym with
    | none => 36 :: Lib.itoa (tnode t).v
    | some s => s.data.toList ++ [40] ++ catTo (fun i => textT n ((tnode t).kid i) ++ [44]) (tnode t).k ++ [41]
def textF : (n : Nat) → Fm n → List UInt8
  | 0, _ => []
  | n + 1, t => Lib.itoa (fnode t).op ++ symText (fnode t).sym ++ [40] ++ catTo (fun i => textT n ((fnode t).arg i) ++ [44]) (fnode t).ka ++ catTo (fun i => textF n ((fnode t).sub i) ++ [44]) (fnode t).kx ++ [41]

/-- Every number in it is an int. -/
def OkT : (n : Nat) → Tm n → Prop
  | 0, _ => True
  | n + 1, t => (-9223372036854775808 ≤ (tnode t).v ∧ (tnode t).v ≤ 9223372036854775807) ∧ ∀ i, i < (tnode t).k → OkT n ((tnode t).kid i)
def OkF : (n : Nat) → Fm n → Prop
  | 0, _ => True
  | n + 1, t => (-9223372036854775808 ≤ (fnode t).op ∧ (fnode t).op ≤ 9223372036854775807) ∧ (∀ i, i < (fnode t).ka → OkT n ((fnode t).arg i)) ∧ ∀ i, i < (fnode t).kx → OkF n ((fnode t).sub i)

theorem costT_ge : ∀ (n : Nat) (t : Tm n), 40 ≤ costT n t
  | 0, _ => Nat.le_refl _
  | n + 1, t => by simp only [costT]; omega
theorem costF_ge : ∀ (n : Nat) (t : Fm n), 72 ≤ costF n t
  | 0, _ => Nat.le_refl _
  | n + 1, t => by simp only [costF]; omega

theorem textT_le : ∀ (n : Nat) (t : Tm n), OkT n t → (textT n t).length + 1 ≤ costT n t
  | 0, _, _ => by simp [textT, costT]
  | n + 1, t, h => by
    obtain ⟨⟨h0, h1⟩, hk⟩ := h
    have hc : (catTo (fun i => textT n ((tnode t).kid i) ++ [44]) (tnode t).k).length ≤ sumTo (fun i => costT n ((tnode t).kid i)) (tnode t).k :=
      cat_le _ (fun i hi => by have := textT_le n _ (hk i hi); simpa using this)
    simp only [textT, costT]
    cases hs : (tnode t).sym with
    | none =>
      have := Lib.itoa_length_le (tnode t).v h0 h1
      simp only [List.length_cons, symCost]
      omega
    | some s =>
      have hl : s.data.toList.length = s.size := Array.length_toList
      simp only [List.length_append, List.length_cons, List.length_nil, symCost, hl]
      omega
theorem textF_le : ∀ (n : Nat) (t : Fm n), OkF n t → (textF n t).length + 1 ≤ costF n t
  | 0, _, _ => by simp [textF, costF]
  | n + 1, t, h => by
    obtain ⟨⟨h0, h1⟩, ha, hx⟩ := h
    have hc : (catTo (fun i => textT n ((fnode t).arg i) ++ [44]) (fnode t).ka).length ≤ sumTo (fun i => costT n ((fnode t).arg i)) (fnode t).ka :=
      cat_le _ (fun i hi => by have := textT_le n _ (ha i hi); simpa using this)
    have hd : (catTo (fun i => textF n ((fnode t).sub i) ++ [44]) (fnode t).kx).length ≤ sumTo (fun i => costF n ((fnode t).sub i)) (fnode t).kx :=
      cat_le _ (fun i hi => by have := textF_le n _ (hx i hi); simpa using this)
    have := Lib.itoa_length_le (fnode t).op h0 h1
    have hsy : (symText (fnode t).sym).length ≤ symCost (fnode t).sym := by
      cases (fnode t).sym with
      | none => simp [symText]
      | some s =>
        have hl : s.data.toList.length = s.size := Array.length_toList
        simp only [symText, symCost, hl]
        omega
    simp only [textF, costF, List.length_append, List.length_cons, List.length_nil]
    omega

end Go.Proofs.Qxb6601988aDoor
