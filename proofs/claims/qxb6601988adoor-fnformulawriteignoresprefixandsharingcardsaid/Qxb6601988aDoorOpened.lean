/-
  The argument, opened into a tree.
-/
import Derived.Test.Qxb6601988aDoorMem
import Derived.ProofKit
import Derived.Deep.Strs
namespace Go.Proofs.Qxb6601988aDoor
open Go.ChangeShapes Go.WideShapes Go.ChangeAt Go.RowKit Go.Deep

def tmDef : (n : Nat) → Tm n
  | 0 => ()
  | n + 1 => (⟨none, 0, 0, fun _ => tmDef n⟩ : TNode (Tm n))
def fmDef : (n : Nat) → Fm n
  | 0 => ()
  | n + 1 => (⟨0, none, 0, fun _ => tmDef n, 0, fun _ => fmDef n⟩ : FNode (Tm n) (Fm n))

theorem cellsOf53 : Tryd.prog.cellsOf 53 = 3 := by kernel_rfl
theorem cellsOf26 : Tryd.prog.cellsOf 26 = 5 := by kernel_rfl
theorem cellsOf50 : Tryd.prog.cellsOf 50 = 1 := by kernel_rfl
theorem cellsOf22 : Tryd.prog.cellsOf 22 = 1 := by kernel_rfl
theorem cellsOf23 : Tryd.prog.cellsOf 23 = 1 := by kernel_rfl
theorem cellsOf24 : Tryd.prog.cellsOf 24 = 1 := by kernel_rfl
theorem cellsOf3 : Tryd.prog.cellsOf 3 = 1 := by kernel_rfl
theorem cellsOf4 : Tryd.prog.cellsOf 4 = 1 := by kernel_rfl
theorem cellsOf9 : Tryd.prog.cellsOf 9 = 1 := by kernel_rfl

section
variable {H : Type} {enc : TypeId × Value → H} {W : World} {base : Nat} {sp : Nat → Bool} {held : Bool}

theorem open_sym {fuel : Nat} {s : Value} {x : DataW H × List MemPlace} (h : DataW.trod enc Tryd.prog W base sp held fuel 22 [s] = some x) : ∃ sym, SymIn W s sym := by
  rcases DataW.trod_pointer Tryd.underlying22 h with ⟨hcs, _⟩ | ⟨a, cs, y, n, _, hcs, _, hc, hy⟩
  · simp at hcs
    exact ⟨none, .inl ⟨hcs, rfl⟩⟩
  · simp at hcs
    subst hcs
    rw [cellsOf50] at hc
    obtain ⟨_, hlen, hcell⟩ := World.cells?_some hc
    obtain ⟨y0, m, _, hl, h0⟩ := trod_struct1 Tryd.underlying50 hy
    simp only at h0
    rw [cellsOf9] at h0
    obtain ⟨nm, e, _, _⟩ := DataW.trod_string Tryd.underlying9 h0
    match cs, hlen with
    | [c], _ =>
      simp at e
      subst e
      have hc0 := hcell 0 (by decide)
      obtain ⟨b, o, spot⟩ := a
      simp [Addr.add] at hc0
      have hspot : spot = none := World.cell?_spot hc0
      subst hspot
      exact ⟨some nm, .inr ⟨b, o, nm, rfl, hc0, rfl⟩⟩

/-- A slice of structs of 'c' cells: its elements, one by one. -/
theorem open_row {fuel : Nat} {t e : TypeId} {c : Nat} (ht : Tryd.prog.underlying t = some (.slice e)) (hce : Tryd.prog.cellsOf e = c) (hc0 : 0 < c) {v : Value} {x : DataW H × List MemPlace} (h : DataW.trod enc Tryd.prog W base sp held fuel t [v] = some x) :
    ∃ k b o, SlIn v k b o ∧ ∀ i, i < k → ∃ cs y m, m + 1 = fuel ∧ cs.length = c ∧ (∀ j, j < c → W.cell? ⟨b, o + i * c + j, none⟩ = cs[j]?) ∧ DataW.trod enc Tryd.prog W base sp held m e cs = some y := by
  rcases DataW.trod_slice ht h with ⟨hcs, _⟩ | ⟨a, len, cap, elems, rest, n, hf, hcs, _, _, hl, hmax, hlen, hel, _⟩
  · simp at hcs
    subst hcs
    exact ⟨0, 0, 0, ⟨none, 0, rfl, fun _ => ⟨rfl, rfl⟩, fun h => absurd h (by omega), by omega⟩, fun i hi => absurd hi (by omega)⟩
  · simp at hcs
    subst hcs
    rw [hce] at hel
    have key : ∀ i, i < len → ∃ cs y, W.cells? base (a.add (i * c)) c = some cs ∧ DataW.trod enc Tryd.prog W base sp held n e cs = some y := fun i hi => by
      have h1 := hel i hi
      rw [List.getElem?_eq_getElem (by omega)] at h1
      obtain ⟨cs, h2, h3⟩ := Option.bind_eq_some_iff.1 h1
      exact ⟨cs, _, h2, h3⟩
    have hspot : 0 < len → a.spot = none := fun h0 => by
      obtain ⟨cs, y, h2, _⟩ := key 0 h0
      obtain ⟨_, h3, h4⟩ := World.cells?_some h2
      have h5 := h4 0 hc0
      rw [List.getElem?_eq_getElem (by omega)] at h5
      have := World.cell?_spot h5
      simpa [Addr.add] using this
    obtain ⟨b, o, spot⟩ := a
    refine ⟨len, b, o, ⟨some ⟨b, o, spot⟩, cap, rfl, fun h => (nomatch h), fun h0 => ?_, by unfold maxLen at hmax; omega⟩, fun i hi => ?_⟩
    · have : spot = none := hspot h0
      rw [this]
    · have : spot = none := hspot (by omega)
      subst this
      obtain ⟨cs, y, h2, h3⟩ := key i hi
      obtain ⟨_, h4, h5⟩ := World.cells?_some h2
      refine ⟨cs, y, n, hf.symm, h4, fun j hj => ?_, h3⟩
      rw [← h5 j hj, add_plain, add_plain]

theorem wf_i64 {n : Int} (h : (Lit.int .i64 n).wf = true) : -9223372036854775808 ≤ n ∧ n ≤ 9223372036854775807 := by
  simp [Lit.wf] at h
  have e : IntKind.i64.min = -9223372036854775808 := by decide
  rw [e] at h
  exact h
theorem at_some {α : Type} {xs : List α} {i : Nat} (h : i < xs.length) : ∃ x, xs[i]? = some x := ⟨_, List.getElem?_eq_getElem h⟩

/-- The kids of a node, chosen. -/
theorem kids_T {n k b o fuel : Nat} (hf : fuel ≤ 2 * n + 1)
    (ih : ∀ (fuel : Nat) (cs : List Value) (x : DataW H × List MemPlace), fuel ≤ 2 * n → DataW.trod enc Tryd.prog W base sp held fuel 53 cs = some x → ∃ s v a, cs = [s, v, a] ∧ ∃ t : Tm n, TI n W s v a t ∧ OkT n t)
    (hel : ∀ i, i < k → ∃ cs y m, m + 1 = fuel ∧ cs.length = 3 ∧ (∀ j, j < 3 → W.cell? ⟨b, o + i * 3 + j, none⟩ = cs[j]?) ∧ DataW.trod enc Tryd.prog W base sp held m 53 cs = some y) :
    ∃ kid : Nat → Tm n, ∀ i, i < k → (∃ s' x' a', W.cell? ⟨b, o + i * 3, none⟩ = some s' ∧ W.cell? ⟨b, o + i * 3 + 1, none⟩ = some x' ∧ W.cell? ⟨b, o + i * 3 + 2, none⟩ = some a' ∧ TI n W s' x' a' (kid i)) ∧ OkT n (kid i) := by
  haveI : Inhabited (Tm n) := ⟨tmDef n⟩
  refine choose_lt (p := fun i t => (∃ s' x' a', W.cell? ⟨b, o + i * 3, none⟩ = some s' ∧ W.cell? ⟨b, o + i * 3 + 1, none⟩ = some x' ∧ W.cell? ⟨b, o + i * 3 + 2, none⟩ = some a' ∧ TI n W s' x' a' t) ∧ OkT n t) (fun i hi => ?_)
  obtain ⟨cs, y, m, hm, _, hc, hy⟩ := hel i hi
  obtain ⟨s, v, a, rfl, t, h1, h2⟩ := ih m cs y (by omega) hy
  exact ⟨t, ⟨s, v, a, hc 0 (by decide), hc 1 (by decide), hc 2 (by decide), h1⟩, h2⟩

set_option maxRecDepth 100000 in
theorem open_T : ∀ (n fuel : Nat) (cs : List Value) (x : DataW H × List MemPlace), fuel ≤ 2 * n → DataW.trod enc Tryd.prog W base sp held fuel 53 cs = some x →
    ∃ s v a, cs = [s, v, a] ∧ ∃ t : Tm n, TI n W s v a t ∧ OkT n t := by
  intro n
  induction n with
  | zero =>
    intro fuel cs x hf h
    obtain rfl : fuel = 0 := by omega
    cases h
  | succ n ih =>
    intro fuel cs x hf h
    obtain ⟨xs, m, hm, _, hl, hlen, hfs⟩ := DataW.trod_struct Tryd.underlying53 h
    rw [cellsOf53] at hl
    have hlen3 : xs.length = 3 := hlen
    match cs, hl with
    | [s, v, a], _ =>
      obtain ⟨y0, e0⟩ := at_some (xs := xs) (i := 0) (by omega)
      obtain ⟨y1, e1⟩ := at_some (xs := xs) (i := 1) (by omega)
      obtain ⟨y2, e2⟩ := at_some (xs := xs) (i := 2) (by omega)
      have f0 : DataW.trod enc Tryd.prog W base sp held m 22 ((([s, v, a] : List Value).drop 0).take (Tryd.prog.cellsOf 22)) = xs[0]? := hfs 0 _ rfl
      rw [cellsOf22, e0] at f0
      have f1 : DataW.trod enc Tryd.prog W base sp held m 3 ((([s, v, a] : List Value).drop 1).take (Tryd.prog.cellsOf 3)) = xs[1]? := hfs 1 _ rfl
      rw [cellsOf3, e1] at f1
      have f2 : DataW.trod enc Tryd.prog W base sp held m 23 ((([s, v, a] : List Value).drop 2).take (Tryd.prog.cellsOf 23)) = xs[2]? := hfs 2 _ rfl
      rw [cellsOf23, e2] at f2
      obtain ⟨sym, hs⟩ := open_sym f0
      obtain ⟨z, hz, _, hw⟩ := DataW.trod_int Tryd.underlying3 f1
      obtain ⟨k, b, o, hsl, hel⟩ := open_row Tryd.underlying23 cellsOf53 (by decide) f2
      obtain ⟨kid, hkid⟩ := kids_T (n := n) (by omega) ih hel
      have ev : v = .int .i64 z := by simpa using hz
      exact ⟨s, v, a, rfl, (⟨sym, z, k, kid⟩ : TNode (Tm n)), ⟨hs, ev, b, o, hsl, fun i hi => (hkid i hi).1⟩, wf_i64 hw, fun i hi => (hkid i hi).2⟩

set_option maxRecDepth 100000 in
theorem open_F : ∀ (n fuel : Nat) (cs : List Value) (x : DataW H × List MemPlace), fuel ≤ 2 * n → DataW.trod enc Tryd.prog W base sp held fuel 26 cs = some x →
    ∃ op s a xs sh, cs = [op, s, a, xs, sh] ∧ ∃ t : Fm n, FI n W op s a xs sh t ∧ OkF n t := by
  intro n
  induction n with
  | zero =>
    intro fuel cs x hf h
    obtain rfl : fuel = 0 := by omega
    cases h
  | succ n ih =>
    intro fuel cs x hf h
    obtain ⟨xs, m, hm, _, hl, hlen, hfs⟩ := DataW.trod_struct Tryd.underlying26 h
    rw [cellsOf26] at hl
    have hlen5 : xs.length = 5 := hlen
    match cs, hl with
    | [op, s, a, fx, sh], _ =>
      obtain ⟨y0, e0⟩ := at_some (xs := xs) (i := 0) (by omega)
      obtain ⟨y1, e1⟩ := at_some (xs := xs) (i := 1) (by omega)
      obtain ⟨y2, e2⟩ := at_some (xs := xs) (i := 2) (by omega)
      obtain ⟨y3, e3⟩ := at_some (xs := xs) (i := 3) (by omega)
      obtain ⟨y4, e4⟩ := at_some (xs := xs) (i := 4) (by omega)
      have f0 : DataW.trod enc Tryd.prog W base sp held m 3 ((([op, s, a, fx, sh] : List Value).drop 0).take (Tryd.prog.cellsOf 3)) = xs[0]? := hfs 0 _ rfl
      rw [cellsOf3, e0] at f0
      have f1 : DataW.trod enc Tryd.prog W base sp held m 22 ((([op, s, a, fx, sh] : List Value).drop 1).take (Tryd.prog.cellsOf 22)) = xs[1]? := hfs 1 _ rfl
      rw [cellsOf22, e1] at f1
      have f2 : DataW.trod enc Tryd.prog W base sp held m 23 ((([op, s, a, fx, sh] : List Value).drop 2).take (Tryd.prog.cellsOf 23)) = xs[2]? := hfs 2 _ rfl
      rw [cellsOf23, e2] at f2
      have f3 : DataW.trod enc Tryd.prog W base sp held m 24 ((([op, s, a, fx, sh] : List Value).drop 3).take (Tryd.prog.cellsOf 24)) = xs[3]? := hfs 3 _ rfl
      rw [cellsOf24, e3] at f3
      have f4 : DataW.trod enc Tryd.prog W base sp held m 4 ((([op, s, a, fx, sh] : List Value).drop 4).take (Tryd.prog.cellsOf 4)) = xs[4]? := hfs 4 _ rfl
      rw [cellsOf4, e4] at f4
      obtain ⟨z, hz, _, hw⟩ := DataW.trod_int Tryd.underlying3 f0
      obtain ⟨sym, hs⟩ := open_sym f1
      obtain ⟨k, b, o, hsl, hel⟩ := open_row Tryd.underlying23 cellsOf53 (by decide) f2
      obtain ⟨k', b', o', hsl', hel'⟩ := open_row Tryd.underlying24 cellsOf26 (by decide) f3
      obtain ⟨bo, hbo, _⟩ := DataW.trod_bool Tryd.underlying4 f4
      obtain ⟨kid, hkid⟩ := kids_T (n := n) (by omega) (fun fuel cs x => open_T n fuel cs x) hel
      haveI : Inhabited (Fm n) := ⟨fmDef n⟩
      obtain ⟨sub, hsub⟩ := choose_lt (n := k') (p := fun i (t : Fm n) => (∃ op' s' a' xs' sh', W.cell? ⟨b', o' + i * 5, none⟩ = some op' ∧ W.cell? ⟨b', o' + i * 5 + 1, none⟩ = some s' ∧ W.cell? ⟨b', o' + i * 5 + 2, none⟩ = some a' ∧ W.cell? ⟨b', o' + i * 5 + 3, none⟩ = some xs' ∧ W.cell? ⟨b', o' + i * 5 + 4, none⟩ = some sh' ∧ FI n W op' s' a' xs' sh' t) ∧ OkF n t) (fun i hi => by
        obtain ⟨cs, y, m', hm', _, hc, hy⟩ := hel' i hi
        obtain ⟨op', s', a', xs', sh', rfl, t, h1, h2⟩ := ih m' cs y (by omega) hy
        exact ⟨t, ⟨op', s', a', xs', sh', hc 0 (by decide), hc 1 (by decide), hc 2 (by decide), hc 3 (by decide), hc 4 (by decide), h1⟩, h2⟩)
      have ev : op = .int .i64 z := by simpa using hz
      have eb : sh = .bool bo := by simpa using hbo
      exact ⟨op, s, a, fx, sh, rfl, (⟨z, sym, k, kid, k', sub⟩ : FNode (Tm n) (Fm n)), ⟨ev, hs, ⟨bo, eb⟩, ⟨b, o, hsl, fun i hi => (hkid i hi).1⟩, b', o', hsl', fun i hi => (hsub i hi).1⟩, wf_i64 hw, fun i hi => (hkid i hi).2, fun i hi => (hsub i hi).2⟩

theorem opened {v : Value} {d : DataW H} {p : List MemPlace} (h : DataW.Trod enc Tryd.prog W base sp held 26 v d p) :
    ∃ op s a xs sh, v.cells.toList = [op, s, a, xs, sh] ∧ ∃ (n : Nat) (t : Fm n), FI n W op s a xs sh t ∧ OkF n t := by
  obtain ⟨fuel, h⟩ := h
  obtain ⟨op, s, a, xs, sh, e, t, h1, h2⟩ := open_F fuel fuel _ _ (by omega) h
  exact ⟨op, s, a, xs, sh, e, fuel, t, h1, h2⟩
end
end Go.Proofs.Qxb6601988aDoor
