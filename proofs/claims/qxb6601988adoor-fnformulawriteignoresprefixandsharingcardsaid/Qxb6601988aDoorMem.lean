/-
  How the trees lie in memory: as they came in (TI, FI) and as they are built (BT, BF).
-/
import Derived.Test.Qxb6601988aDoorTree
import Derived.Test.Qxb6601988aDoorWriters
namespace Go.Proofs.Qxb6601988aDoor
open Go.RowKit Go.Deep

/-! ### As they came in -/
def SymIn (w : World) (s : Value) (sym : Option ByteArray) : Prop :=
  (s = .pointer none ∧ sym = none) ∨ ∃ b o nm, s = .pointer (some ⟨b, o, none⟩) ∧ w.cell? ⟨b, o, none⟩ = some (.string nm) ∧ sym = some nm
def SlIn (a : Value) (k b o : Nat) : Prop :=
  ∃ ad c, a = .slice ad k c ∧ (ad = none → k = 0 ∧ c = 0) ∧ (0 < k → ad = some ⟨b, o, none⟩) ∧ k ≤ 9223372036854775807

def TI : (n : Nat) → World → Value → Value → Value → Tm n → Prop
  | 0, _, _, _, _, _ => False
  | n + 1, w, s, x, a, t => SymIn w s (tnode t).sym ∧ x = .int .i64 (tnode t).v ∧ ∃ b o, SlIn a (tnode t).k b o ∧
      ∀ i, i < (tnode t).k → ∃ s' x' a', w.cell? ⟨b, o + i * 3, none⟩ = some s' ∧ w.cell? ⟨b, o + i * 3 + 1, none⟩ = some x' ∧ w.cell? ⟨b, o + i * 3 + 2, none⟩ = some a' ∧ TI n w s' x' a' ((tnode t).kid i)
def FI : (n : Nat) → World → Value → Value → Value → Value → Value → Fm n → Prop
  | 0, _, _, _, _, _, _, _ => False
  | n + 1, w, op, s, a, xs, sh, t => op = .int .i64 (fnode t).op ∧ SymIn w s (fnode t).sym ∧ (∃ bo, sh = .bool bo) ∧
      (∃ b o, SlIn a (fnode t).ka b o ∧
        ∀ i, i < (fnode t).ka → ∃ s' x' a', w.cell? ⟨b, o + i * 3, none⟩ = some s' ∧ w.cell? ⟨b, o + i * 3 + 1, none⟩ = some x' ∧ w.cell? ⟨b, o + i * 3 + 2, none⟩ = some a' ∧ TI n w s' x' a' ((fnode t).arg i)) ∧
      (∃ b o, SlIn xs (fnode t).kx b o ∧
        ∀ i, i < (fnode t).kx → ∃ op' s' a' xs' sh', w.cell? ⟨b, o + i * 5, none⟩ = some op' ∧ w.cell? ⟨b, o + i * 5 + 1, none⟩ = some s' ∧ w.cell? ⟨b, o + i * 5 + 2, none⟩ = some a' ∧ w.cell? ⟨b, o + i * 5 + 3, none⟩ = some xs' ∧ w.cell? ⟨b, o + i * 5 + 4, none⟩ = some sh' ∧
          FI n w op' s' a' xs' sh' ((fnode t).sub i))

theorem SymIn.ptr {w : World} {s : Value} {sym : Option ByteArray} (h : SymIn w s sym) : ∃ q, s = .pointer q := by
  rcases h with ⟨h, _⟩ | ⟨b, o, nm, h, _⟩
  · exact ⟨_, h⟩
  · exact ⟨_, h⟩
theorem cell_since {w w' : World} (hs : w.Since w.heap.size w') {b o : Nat} {v : Value} (h : w.cell? ⟨b, o, none⟩ = some v) : w'.cell? ⟨b, o, none⟩ = some v := by
  rw [hs.cell (a := ⟨b, o, none⟩) (World.block_lt_of_cell? _ _ h)]
  exact h
theorem SymIn.since {w w' : World} (hs : w.Since w.heap.size w') {s : Value} {sym : Option ByteArray} (h : SymIn w s sym) : SymIn w' s sym := by
  rcases h with h | ⟨b, o, nm, h1, h2, h3⟩
  · exact .inl h
  · exact .inr ⟨b, o, nm, h1, cell_since hs h2, h3⟩
theorem TI.since {w w' : World} (hs : w.Since w.heap.size w') : ∀ (n : Nat) {s x a : Value} {t : Tm n}, TI n w s x a t → TI n w' s x a t
  | 0, _, _, _, _, h => h
  | n + 1, _, _, _, _, ⟨h1, h2, b, o, h3, h4⟩ => ⟨h1.since hs, h2, b, o, h3, fun i hi => by
    obtain ⟨s', x', a', c1, c2, c3, c4⟩ := h4 i hi
    exact ⟨s', x', a', cell_since hs c1, cell_since hs c2, cell_since hs c3, TI.since hs n c4⟩⟩
theorem FI.since {w w' : World} (hs : w.Since w.heap.size w') : ∀ (n : Nat) {op s a xs sh : Value} {t : Fm n}, FI n w op s a xs sh t → FI n w' op s a xs sh t
  | 0, _, _, _, _, _, _, h => h
  | n + 1, _, _, _, _, _, _, ⟨h1, h2, h3, ⟨b, o, h4, h5⟩, b', o', h6, h7⟩ => ⟨h1, h2.since hs, h3, ⟨b, o, h4, fun i hi => by
    obtain ⟨s', x', a', c1, c2, c3, c4⟩ := h5 i hi
    exact ⟨s', x', a', cell_since hs c1, cell_since hs c2, cell_since hs c3, TI.since hs n c4⟩⟩, b', o', h6, fun i hi => by
    obtain ⟨op', s', a', xs', sh', c0, c1, c2, c3, c4, c5⟩ := h7 i hi
    exact ⟨op', s', a', xs', sh', cell_since hs c0, cell_since hs c1, cell_since hs c2, cell_since hs c3, cell_since hs c4, FI.since hs n c5⟩⟩

/-! ### As they are built: every block of it from block L on -/
def KeepsFrom (L : Nat) (w w' : World) : Prop := ∀ (k : Nat) (cs : Array Value) (t : TypeId) (fz : Nat × Nat), L ≤ k → w.heap[k]? = some (.cells cs t fz) → t ≠ 5 → t ≠ 31 → w'.heap[k]? = some (.cells cs t fz)
theorem Keeps.from {w w' : World} (h : Keeps w w') (L : Nat) : KeepsFrom L w w' := fun k cs t fz _ => h k cs t fz
theorem KeepsFrom.setLow {L h i : Nat} (w : World) (hh : h < L) (v : Value) : KeepsFrom L w (w.setCell ⟨h, i, none⟩ v) := fun k cs t fz hk hb _ _ => by
  have e : k ≠ (⟨h, i, none⟩ : Addr).block := by show k ≠ h; omega
  rw [blk_setCell_other _ _ _ _ e]
  exact hb
def SymB (L : Nat) (w : World) (s : Value) (sym : Option ByteArray) : Prop :=
  (s = .pointer none ∧ sym = none) ∨ ∃ g nm, s = .pointer (some ⟨g, 0, none⟩) ∧ L ≤ g ∧ w.heap[g]? = some (.cells #[.string nm, .slice none 0 0, .pointer none] 83 (0, 0)) ∧ sym = some nm
/-- A slice of k pointers, each cell's pointer told by 'R'. -/
def PtrRow (L : Nat) (w : World) (e : TypeId) (a : Value) (k : Nat) (R : Nat → Value → Prop) : Prop :=
  ∃ ad c h, a = .slice ad k c ∧ (0 < k → ad = some ⟨h, 0, none⟩ ∧ L ≤ h ∧ ∃ f, w.rowIs h e k f ∧ ∀ i, i < k → R i (f i))
def BT : (n : Nat) → Nat → World → Value → Tm n → Prop
  | 0, _, _, _, _ => False
  | n + 1, L, w, p, t => ∃ g sp ar, p = .pointer (some ⟨g, 0, none⟩) ∧ L ≤ g ∧ w.heap[g]? = some (.cells #[sp, .int .i64 (tnode t).v, ar] 88 (0, 0)) ∧ SymB L w sp (tnode t).sym ∧
      PtrRow L w 58 ar (tnode t).k (fun i q => BT n L w q ((tnode t).kid i))
def BF : (n : Nat) → Nat → World → Value → Fm n → Prop
  | 0, _, _, _, _ => False
  | n + 1, L, w, p, t => ∃ g sp ar xr bo, p = .pointer (some ⟨g, 0, none⟩) ∧ L ≤ g ∧ w.heap[g]? = some (.cells #[.int .i64 (fnode t).op, sp, ar, xr, .bool bo] 79 (0, 0)) ∧ SymB L w sp (fnode t).sym ∧
      PtrRow L w 58 ar (fnode t).ka (fun i q => BT n L w q ((fnode t).arg i)) ∧ PtrRow L w 37 xr (fnode t).kx (fun i q => BF n L w q ((fnode t).sub i))

theorem SymB.keeps {L L' : Nat} {w w' : World} (hL : L' ≤ L) (hk : KeepsFrom L w w') {s : Value} {sym : Option ByteArray} (h : SymB L w s sym) : SymB L' w' s sym := by
  rcases h with h | ⟨g, nm, h1, hg, h2, h3⟩
  · exact .inl h
  · exact .inr ⟨g, nm, h1, by omega, hk _ _ _ _ hg h2 (by decide) (by decide), h3⟩
theorem SymB.ptr {L : Nat} {w : World} {s : Value} {sym : Option ByteArray} (h : SymB L w s sym) : ∃ q, s = .pointer q := by
  rcases h with ⟨h, _⟩ | ⟨g, nm, h, _⟩
  · exact ⟨_, h⟩
  · exact ⟨_, h⟩
theorem PtrRow.keeps {L L' : Nat} {w w' : World} (hL : L' ≤ L) (hk : KeepsFrom L w w') {e : TypeId} (h5 : e ≠ 5) (h31 : e ≠ 31) {a : Value} {k : Nat} {R R' : Nat → Value → Prop} (hR : ∀ i p, i < k → R i p → R' i p) (h : PtrRow L w e a k R) : PtrRow L' w' e a k R' := by
  obtain ⟨ad, c, hh, h1, h2⟩ := h
  refine ⟨ad, c, hh, h1, fun h0 => ?_⟩
  obtain ⟨h3, h4, f, ⟨cs, c1, c2, c3⟩, h6⟩ := h2 h0
  exact ⟨h3, by omega, f, ⟨cs, hk _ _ _ _ h4 c1 h5 h31, c2, c3⟩, fun i hi => hR i _ hi (h6 i hi)⟩
theorem BT.keeps {L L' : Nat} {w w' : World} (hL : L' ≤ L) (hk : KeepsFrom L w w') : ∀ (n : Nat) {p : Value} {t : Tm n}, BT n L w p t → BT n L' w' p t
  | 0, _, _, h => h
  | n + 1, _, _, ⟨g, sp, ar, h1, hg, h2, h3, h4⟩ => ⟨g, sp, ar, h1, by omega, hk _ _ _ _ hg h2 (by decide) (by decide), h3.keeps hL hk, h4.keeps hL hk (by decide) (by decide) (fun _ _ _ h => BT.keeps hL hk n h)⟩
theorem BF.keeps {L L' : Nat} {w w' : World} (hL : L' ≤ L) (hk : KeepsFrom L w w') : ∀ (n : Nat) {p : Value} {t : Fm n}, BF n L w p t → BF n L' w' p t
  | 0, _, _, h => h
  | n + 1, _, _, ⟨g, sp, ar, xr, bo, h1, hg, h2, h3, h4, h5⟩ => ⟨g, sp, ar, xr, bo, h1, by omega, hk _ _ _ _ hg h2 (by decide) (by decide), h3.keeps hL hk, h4.keeps hL hk (by decide) (by decide) (fun _ _ _ h => BT.keeps hL hk n h), h5.keeps hL hk (by decide) (by decide) (fun _ _ _ h => BF.keeps hL hk n h)⟩

/-- A row of pointers on the way: the first j are laid. -/
def Filling (L h : Nat) (e : TypeId) (k j : Nat) (R : World → Nat → Value → Prop) (w : World) : Prop := L ≤ h ∧ ∃ f, w.rowIs h e k f ∧ ∀ i, i < j → R w i (f i)
theorem Filling.start {L : Nat} {w : World} (hL : L ≤ w.heap.size) (z : Value) (e : TypeId) (k : Nat) (R : World → Nat → Value → Prop) : Filling L w.heap.size e k 0 R (w.alloc (.cells (madeCells #[z] k) e)) :=
  ⟨hL, _, World.rowIs_made w z k e, fun i hi => by omega⟩
theorem Filling.since {L h : Nat} {e : TypeId} {k j : Nat} {R : World → Nat → Value → Prop} {w w' : World} (hf : Filling L h e k j R w) (hs : w.Since w.heap.size w') (hR : ∀ i p, R w i p → R w' i p) : Filling L h e k j R w' := by
  obtain ⟨hL, f, hr, hi⟩ := hf
  exact ⟨hL, f, hr.of_block (hs.block _ hr.lt), fun i h => hR i _ (hi i h)⟩
theorem Filling.step {L h : Nat} {e : TypeId} {k j : Nat} {R : World → Nat → Value → Prop} {w : World} (hf : Filling L h e k j R w) (p : Value) (hp : R w j p) (hR : ∀ i q, R w i q → R (w.setCell ⟨h, j, none⟩ p) i q) : Filling L h e k (j + 1) R (w.setCell ⟨h, j, none⟩ p) := by
  obtain ⟨hL, f, hr, hi⟩ := hf
  refine ⟨hL, _, hr.set j p, fun i h => ?_⟩
  by_cases e : i = j
  · subst e; rw [if_pos rfl]; exact hR _ _ hp
  · rw [if_neg e]; exact hR _ _ (hi i (by omega))

theorem Filling.done {L h : Nat} {e : TypeId} {k : Nat} {R : World → Nat → Value → Prop} {R' : Nat → Value → Prop} {w : World} (hf : Filling L h e k k R w) (hR : ∀ i p, R w i p → R' i p) : L ≤ h ∧ ∃ f, w.rowIs h e k f ∧ ∀ i, i < k → R' i (f i) := by
  obtain ⟨hL, f, hr, hi⟩ := hf
  exact ⟨hL, f, hr, fun i h => hR _ _ (hi i h)⟩
/-- A store into a row of another type. -/
theorem SymB.store {L h : Nat} {e : TypeId} {k j i : Nat} {R : World → Nat → Value → Prop} {w : World} (hf : Filling L h e k j R w) (he : e ≠ 83) {L' : Nat} {s v : Value} {sym : Option ByteArray} (hs : SymB L' w s sym) : SymB L' (w.setCell ⟨h, i, none⟩ v) s sym := by
  obtain ⟨_, f, ⟨cs, hr, _⟩, _⟩ := hf
  rcases hs with hs | ⟨g, nm, h1, hg, h2, h3⟩
  · exact .inl hs
  · refine .inr ⟨g, nm, h1, hg, ?_, h3⟩
    have e2 : g ≠ (⟨h, i, none⟩ : Addr).block := by
      show g ≠ h
      rintro rfl
      rw [hr] at h2
      injection h2 with h2
      injection h2 with _ h2 _
      exact he h2
    rw [blk_setCell_other _ _ _ _ e2]
    exact h2

/-- A store into a row of formulas leaves the terms. -/
def KeepsNot (e : TypeId) (w w' : World) : Prop := ∀ (k : Nat) (cs : Array Value) (t : TypeId) (fz : Nat × Nat), w.heap[k]? = some (.cells cs t fz) → t ≠ e → w'.heap[k]? = some (.cells cs t fz)
theorem KeepsNot.store {L h : Nat} {e : TypeId} {k j i : Nat} {R : World → Nat → Value → Prop} {w : World} (hf : Filling L h e k j R w) (v : Value) : KeepsNot e w (w.setCell ⟨h, i, none⟩ v) := fun g cs t fz hg ht => by
  obtain ⟨_, f, ⟨cs', hr, _⟩, _⟩ := hf
  have e2 : g ≠ (⟨h, i, none⟩ : Addr).block := by
    show g ≠ h
    rintro rfl
    rw [hr] at hg
    injection hg with hg
    injection hg with _ hg _
    exact ht hg.symm
  rw [blk_setCell_other _ _ _ _ e2]
  exact hg
theorem BT.keepsNot {L : Nat} {w w' : World} (hk : KeepsNot 37 w w') : ∀ (n : Nat) {p : Value} {t : Tm n}, BT n L w p t → BT n L w' p t
  | 0, _, _, h => h
  | n + 1, _, _, ⟨g, sp, ar, h1, hg, h2, h3, ad, c, hh, h4, h5⟩ => ⟨g, sp, ar, h1, hg, hk _ _ _ _ h2 (by decide), by
      rcases h3 with h3 | ⟨g', nm, a1, a2, a3, a4⟩
      · exact .inl h3
      · exact .inr ⟨g', nm, a1, a2, hk _ _ _ _ a3 (by decide), a4⟩, ad, c, hh, h4, fun h0 => by
      obtain ⟨a1, a2, f, ⟨cs, c1, c2, c3⟩, a4⟩ := h5 h0
      exact ⟨a1, a2, f, ⟨cs, hk _ _ _ _ c1 (by decide), c2, c3⟩, fun i hi => BT.keepsNot hk n (a4 i hi)⟩⟩
theorem PtrRow.store37 {L h : Nat} {k j i : Nat} {R : World → Nat → Value → Prop} {w : World} (hf : Filling L h 37 k j R w) {v : Value} {a : Value} {ka n : Nat} {f : Nat → Tm n} (hr : PtrRow L w 58 a ka (fun i q => BT n L w q (f i))) :
    PtrRow L (w.setCell ⟨h, i, none⟩ v) 58 a ka (fun x q => BT n L (w.setCell ⟨h, i, none⟩ v) q (f x)) := by
  have hk := KeepsNot.store (i := i) hf v
  obtain ⟨ad, c, hh, h4, h5⟩ := hr
  refine ⟨ad, c, hh, h4, fun h0 => ?_⟩
  obtain ⟨a1, a2, f, ⟨cs, c1, c2, c3⟩, a4⟩ := h5 h0
  exact ⟨a1, a2, f, ⟨cs, hk _ _ _ _ c1 (by decide), c2, c3⟩, fun i hi => BT.keepsNot hk n (a4 i hi)⟩

theorem since_mono {B B' : Nat} {w w' : World} (h : w.Since B w') (hB : B' ≤ B) : w.Since B' w' := ⟨h.os, h.tape, h.output, h.size, fun k hk => h.block k (by omega)⟩
theorem since_step {w w1 w2 : World} (h : w.Since w.heap.size w1) (k : w1.Since w1.heap.size w2) : w.Since w.heap.size w2 := h.trans (since_mono k h.size)
theorem since_below {w w' : World} (h : w.Since w.heap.size w') : Below w.heap.size w w' := ⟨h.os, h.tape, h.output, h.size, h.block⟩
theorem below_since {B : Nat} {w w' : World} (h : Below B w w') : w.Since B w' := ⟨h.os, h.tape, h.output, h.size, h.block⟩

end Go.Proofs.Qxb6601988aDoor
