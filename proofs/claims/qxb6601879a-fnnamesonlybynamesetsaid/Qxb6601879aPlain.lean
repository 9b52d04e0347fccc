/-
  THE PLAIN LAW on the names that are picked.
-/
import Derived.Test.Qxb6601879aNames
import Derived.Test.Qxb6601879aLeaf
namespace Go.Proofs.Qxb6601879a
open Go.RowKit

theorem len_or (p q : Nat → Bool) : ∀ l : List Nat, (l.filter (fun i => p i || q i)).length ≤ (l.filter p).length + (l.filter q).length
  | [] => by simp
  | x :: l => by
    have ih := len_or p q l
    cases hp : p x <;> cases hq : q x <;> simp [hp, hq] <;> omega
theorem len_one (x : Int) : ∀ n : Nat, ((List.range n).filter (fun i => x == ((i : Nat) : Int))).length ≤ 1 := by
  have hz : ∀ n : Nat, (n : Int) ≤ x → (List.range n).filter (fun i => x == ((i : Nat) : Int)) = [] := by
    intro n h
    rw [List.filter_eq_nil_iff]
    intro i hi
    have : i < n := List.mem_range.1 hi
    rw [beq_iff_eq]
    omega
  intro n
  induction n with
  | zero => simp
  | succ n ih =>
    rw [List.range_succ, List.filter_append, List.length_append]
    cases h : (x == (n : Int)) with
    | false => simp [h]; exact ih
    | true =>
      rw [hz n (by rw [beq_iff_eq] at h; omega)]
      simp [h]
theorem picked_le_k (S : Nat → ByteArray) (N : Nat → Int) (n : Nat) : ∀ k, (picked S (mk N k) n).length ≤ k := by
  intro k
  unfold picked
  rw [List.length_map]
  induction k with
  | zero => simp [mk_zero]
  | succ k ih =>
    have e : mk N (k + 1) = fun i => mk N k i || (N k == ((i : Nat) : Int)) := funext fun i => mk_succ N k i
    rw [e]
    have h1 := len_or (mk N k) (fun i => N k == ((i : Nat) : Int)) (List.range n)
    have h2 := len_one (N k) n
    omega

/-- Neighbours in order: all in order. -/
theorem less_all {S : Nat → ByteArray} {n : Nat} (h : ∀ i, 1 ≤ i → i < n → less (S (i - 1)) (S i) = true) : ∀ d a, a + d + 1 < n → less (S a) (S (a + d + 1)) = true := by
  intro d
  induction d with
  | zero => intro a ha; exact h (a + 1) (by omega) (by omega)
  | succ d ih =>
    intro a ha
    exact lessL_trans (ih a (by omega)) (h (a + d + 1 + 1) (by omega) (by omega))

theorem picked_get (S : Nat → ByteArray) (M : Nat → Bool) (n i : Nat) (h : i < (picked S M n).length) : ∃ t, t < n ∧ M t = true ∧ ((List.range n).filter M)[i]? = some t ∧ (picked S M n).getD i ByteArray.empty = S t := by
  unfold picked at h ⊢
  rw [List.length_map] at h
  refine ⟨((List.range n).filter M)[i], ?_, ?_, List.getElem?_eq_getElem h, ?_⟩
  · have := List.mem_filter.1 (List.getElem_mem h)
    exact List.mem_range.1 this.1
  · exact (List.mem_filter.1 (List.getElem_mem h)).2
  · rw [List.getD_eq_getElem?_getD, List.getElem?_map, List.getElem?_eq_getElem h]
    rfl

theorem picked_sorted {S : Nat → ByteArray} {M : Nat → Bool} {n : Nat} (h : ∀ i, 1 ≤ i → i < n → less (S (i - 1)) (S i) = true) :
    ∀ i, 1 ≤ i → i < (picked S M n).length → less ((picked S M n).getD (i - 1) ByteArray.empty) ((picked S M n).getD i ByteArray.empty) = true := by
  intro i h1 h2
  obtain ⟨t, ht, _, e, es⟩ := picked_get S M n i h2
  obtain ⟨t', ht', _, e', es'⟩ := picked_get S M n (i - 1) (by omega)
  have hp : ((List.range n).filter M).Pairwise (· < ·) := List.Pairwise.filter _ List.pairwise_lt_range
  obtain ⟨l1, e1⟩ := List.getElem?_eq_some_iff.1 e
  obtain ⟨l2, e2⟩ := List.getElem?_eq_some_iff.1 e'
  have hlt : t' < t := by
    have := List.pairwise_iff_getElem.1 hp (i - 1) i l2 l1 (by omega)
    rw [e1, e2] at this
    exact this
  rw [es, es']
  have := less_all h (t - t' - 1) t' (by omega)
  rwa [show t' + (t - t' - 1) + 1 = t by omega] at this

theorem picked_has {S : Nat → ByteArray} {N : Nat → Int} {n k : Nat} (hN : ∀ i, i < k → 0 ≤ N i ∧ N i < n) (j : Nat) (hj : j < k) :
    ∃ i, i < (picked S (mk N k) n).length ∧ (picked S (mk N k) n).getD i ByteArray.empty = S (N j).toNat := by
  obtain ⟨h0, h1⟩ := hN j hj
  have hm : S (N j).toNat ∈ picked S (mk N k) n := by
    unfold picked
    refine List.mem_map.2 ⟨(N j).toNat, List.mem_filter.2 ⟨List.mem_range.2 (by omega), mk_iff.2 ⟨j, hj, by omega⟩⟩, rfl⟩
  obtain ⟨i, hi, e⟩ := List.mem_iff_getElem.1 hm
  refine ⟨i, hi, ?_⟩
  rw [List.getD_eq_getElem?_getD, List.getElem?_eq_getElem hi]
  exact e

theorem picked_of (S : Nat → ByteArray) (N : Nat → Int) (n k i : Nat) (h : i < (picked S (mk N k) n).length) : ∃ j, j < k ∧ S (N j).toNat = (picked S (mk N k) n).getD i ByteArray.empty := by
  obtain ⟨t, ht, hm, _, es⟩ := picked_get S (mk N k) n i h
  obtain ⟨j, hj, e⟩ := mk_iff.1 hm
  exact ⟨j, hj, by rw [es, e]; rfl⟩

theorem picked_congr {S : Nat → ByteArray} {M M' : Nat → Bool} {n : Nat} (h : ∀ i, i < n → M i = M' i) : picked S M n = picked S M' n := by
  unfold picked
  rw [List.filter_congr (fun i hi => h i (List.mem_range.1 hi))]

end Go.Proofs.Qxb6601879a
