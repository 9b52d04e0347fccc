/-
  Words shared by the walks of this seat.
-/
import Derived.Test.Qxb6601879aRows
import Derived.WalkKit
import Derived.WalkSpells
import Derived.WalkLawsBesides
import Derived.Below
import Derived.Outline
import Derived.Deep.OwnRows
import Derived.LoopTactic
import Derived.Deep.QuietTactic
import Derived.BigQuiet
namespace Go.Proofs.Qxb6601879a
open Go.RowKit

theorem hide {p : Prop} (h : p) : Hid p := h
theorem ret_bool {a b : Bool} (h : a = b) : Ending.returned (.bool a) = .returned (.bool b) := by rw [h]

/-- The n elements of a slice at address a: element i is 'f i'. -/
def Arr (w : World) (a : Option Addr) (n : Nat) (f : Nat → Value) : Prop :=
  ∃ b o, (0 < n → a = some ⟨b, o, none⟩) ∧ ∀ i, i < n → w.cell? ⟨b, o + i, none⟩ = some (f i)

theorem Arr.since {w w' : World} {a : Option Addr} {n : Nat} {f : Nat → Value} (h : Arr w a n f) (hs : w.Since w.heap.size w') : Arr w' a n f := by
  obtain ⟨b, o, h1, h2⟩ := h
  refine ⟨b, o, h1, fun i hi => ?_⟩
  have hb : b < w.heap.size := World.block_lt_of_cell? _ _ (h2 i hi)
  rw [hs.cell (a := ⟨b, o + i, none⟩) hb]
  exact h2 i hi
theorem Arr.row {w : World} {g : Nat} {t : TypeId} {n : Nat} {f : Nat → Value} (h : w.rowIs g t n f) : Arr w (some ⟨g, 0, none⟩) n f :=
  ⟨g, 0, fun _ => rfl, fun i hi => by rw [Nat.zero_add]; exact h.cell hi⟩
theorem Arr.nil {w : World} {a : Option Addr} {f : Nat → Value} : Arr w a 0 f := ⟨0, 0, fun h => absurd h (Nat.lt_irrefl _), fun _ h => absurd h (Nat.not_lt_zero _)⟩
theorem Arr.drewN {w : World} {a : Option Addr} {n q : Nat} {f : Nat → Value} (h : Arr w a n f) : Arr (w.drewN q) a n f := h
theorem Arr.congr {w : World} {a : Option Addr} {n : Nat} {f g : Nat → Value} (h : Arr w a n f) (e : ∀ i, i < n → f i = g i) : Arr w a n g := by
  obtain ⟨b, o, h1, h2⟩ := h
  exact ⟨b, o, h1, fun i hi => by rw [h2 i hi, e i hi]⟩
theorem since_drewN {B : Nat} {w w' : World} (h : w.Since B w') (q : Nat) : w.Since B (w'.drewN q) := ⟨h.os, h.tape, h.output, h.size, h.block⟩
theorem since_mono {B B' : Nat} {w w' : World} (h : w.Since B w') (hB : B' ≤ B) : w.Since B' w' := ⟨h.os, h.tape, h.output, h.size, fun k hk => h.block k (by omega)⟩
theorem since_below {w w' : World} (h : w.Since w.heap.size w') : Below w.heap.size w w' := ⟨h.os, h.tape, h.output, h.size, h.block⟩

def IntPost (w : World) (e : Ending) (w' : World) : Prop := ∃ r : Int, e = .returned (.int .i64 r) ∧ w' = w
def BPost (C : Prop) (w : World) (e : Ending) (w' : World) : Prop := ∃ r : Bool, e = .returned (.bool r) ∧ (r = true → C) ∧ w' = w
theorem bp_no {C : Prop} {w : World} : BPost C w (.returned (.bool false)) w := ⟨false, rfl, fun h => (Bool.false_ne_true h).elim, rfl⟩

end Go.Proofs.Qxb6601879a
