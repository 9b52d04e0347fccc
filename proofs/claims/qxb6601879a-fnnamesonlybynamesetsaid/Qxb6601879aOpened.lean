/-
  The arguments, opened into what the walks ask.
-/
import Derived.Test.Qxb6601879aBase
import Derived.ProofKit
import Derived.Deep.Strs
import Derived.Deep.Grids
import Derived.Deep.Matrix
namespace Go.Proofs.Qxb6601879a
open Go.ChangeShapes Go.WideShapes Go.ChangeAt Go.RowKit Go.Deep

theorem arr_of {w : World} {a : Addr} {m len : Nat} {f : Nat → Value} (h : ∀ i, i < m → w.cell? (a.add i) = some (f i)) (hl : len ≤ m) : Arr w (some a) len f := by
  obtain ⟨b, o, spot⟩ := a
  by_cases h0 : len = 0
  · subst h0; exact Arr.nil
  have hspot : spot = none := by simpa [Addr.add] using World.cell?_spot (h 0 (by omega))
  subst hspot
  exact ⟨b, o, fun _ => rfl, fun i hi => by rw [← add_plain]; exact h i (by omega)⟩

section
variable {H : Type} {enc : TypeId × Value → H} {W : World} {a : Option Addr} {len cap : Nat} {d : DataW H} {p : List MemPlace}

theorem opened_strs (h : DataW.Trod enc Try.prog W 0 (fun _ => true) true 22 (.slice a len cap) d p) :
    ∃ S : Nat → ByteArray, Arr W a len (fun i => .string (S i)) ∧ (∀ i, i < len → (S i).size ≤ 9223372036854775807) ∧ (a = none → len = 0 ∧ cap = 0) := by
  obtain ⟨fuel, hf⟩ := h
  rcases open_strs Try.underlying22 Try.underlying9 (by kernel_rfl) hf with ⟨hcs, _⟩ | ⟨x, l, c, m, S, hcs, _, hl, hm, hmm, _, hc⟩
  · simp [Value.cells] at hcs
    obtain ⟨rfl, rfl, rfl⟩ := hcs
    exact ⟨fun _ => ByteArray.empty, Arr.nil, fun i h => by omega, fun _ => ⟨rfl, rfl⟩⟩
  · simp [Value.cells] at hcs
    obtain ⟨rfl, rfl, rfl⟩ := hcs
    simp only [if_true] at hmm
    exact ⟨S, arr_of (fun i hi => (hc i hi).1) (by omega), fun i hi => (hc i (by omega)).2, fun h => (nomatch h)⟩

theorem opened_ints (h : DataW.Trod enc Try.prog W 0 (fun _ => true) true 23 (.slice a len cap) d p) : ∃ N : Nat → Int, Arr W a len (fun i => .int .i64 (N i)) := by
  obtain ⟨fuel, hf⟩ := h
  rcases open_ints Try.underlying23 Try.underlying3 (by kernel_rfl) hf with ⟨hcs, _⟩ | ⟨x, l, c, zs, hcs, _, hl, hm, hz, _, hc, _⟩
  · simp [Value.cells] at hcs
    obtain ⟨rfl, rfl, rfl⟩ := hcs
    exact ⟨fun _ => 0, Arr.nil⟩
  · simp [Value.cells] at hcs
    obtain ⟨rfl, rfl, rfl⟩ := hcs
    simp only [if_true] at hz
    exact ⟨fun i => zs.getD i 0, arr_of hc (by omega)⟩

theorem opened_bools (h : DataW.Trod enc Try.prog W 0 (fun _ => true) true 24 (.slice a len cap) d p) : ∃ B : Nat → Bool, Arr W a len (fun i => .bool (B i)) := by
  obtain ⟨fuel, hf⟩ := h
  rcases open_bools Try.underlying24 Try.underlying4 (by kernel_rfl) hf with ⟨hcs, _⟩ | ⟨x, l, c, B, hcs, _, hl, hm, _, hc⟩
  · simp [Value.cells] at hcs
    obtain ⟨rfl, rfl, rfl⟩ := hcs
    exact ⟨fun _ => false, Arr.nil⟩
  · simp [Value.cells] at hcs
    obtain ⟨rfl, rfl, rfl⟩ := hcs
    exact ⟨B, arr_of hc hl⟩

theorem opened_rows (h : DataW.Trod enc Try.prog W 0 (fun _ => true) true 25 (.slice a len cap) d p) :
    ∃ (A : Nat → Option Addr) (L C : Nat → Nat) (Z : Nat → Nat → Int), Arr W a len (fun i => .slice (A i) (L i) (C i)) ∧ (∀ i, i < len → Arr W (A i) (L i) (fun j => .int .i64 (Z i j))) ∧ (a = none → len = 0 ∧ cap = 0) := by
  obtain ⟨fuel, hf⟩ := h
  rcases open_int_rows Try.underlying25 Try.underlying23 Try.underlying3 (by kernel_rfl) (by kernel_rfl) hf with ⟨hcs, _⟩ | ⟨x, l, c, A, L, C, Z, hcs, _, hl, hm, _, hc⟩
  · simp [Value.cells] at hcs
    obtain ⟨rfl, rfl, rfl⟩ := hcs
    exact ⟨fun _ => none, fun _ => 0, fun _ => 0, fun _ _ => 0, Arr.nil, fun i h => by omega, fun _ => ⟨rfl, rfl⟩⟩
  · simp [Value.cells] at hcs
    obtain ⟨rfl, rfl, rfl⟩ := hcs
    refine ⟨A, L, C, fun i j => (Z i).getD j 0, arr_of (fun i hi => (hc i hi).1) hl, fun i hi => ?_, fun h => (nomatch h)⟩
    obtain ⟨_, h1, _, _, _, h5, h6⟩ := hc i (by omega)
    cases hA : A i with
    | none =>
      have := h5 hA
      have h0 : L i = 0 := by omega
      rw [h0]
      exact Arr.nil
    | some a' => exact arr_of (h6 a' hA).2 h1
end

end Go.Proofs.Qxb6601879a
