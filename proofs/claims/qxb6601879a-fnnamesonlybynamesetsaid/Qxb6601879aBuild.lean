/-
  ZZNewSummary (33), ZZAddClass (34), zzBuildSummary (13).
-/
import Derived.Test.Qxb6601879aClone
import Derived.Deep.AppendLies
import Derived.OneCell
namespace Go.Proofs.Qxb6601879a
open Go.RowKit

theorem info71 : (Try.prog.info? 71).map (fun i => (i.zero, i.size, i.bytes)) = some (some (.agg #[.int .i64 0, .slice none 0 0, .bool false, .int .i64 0, .int .i64 0]), 5, 56) := by kernel_rfl

/-- The fields of a summary. -/
def sf (root : ByteArray) (nm v : Value) : Nat → Value
  | 0 => .string root
  | 1 => nm
  | 2 => v
  | _ => .slice none 0 0

/-- A summary that the call made: its block g, its k classes the cells xs. -/
structure Sum (w : World) (g : Nat) (root : ByteArray) (nm v : Value) (k : Nat) (xs : List Value) : Prop where
  row : w.rowIs g 69 5 (sf root nm v)
  own : w.ownsRow (g + 1) 71 5 v k xs

theorem new_any (root : ByteArray) (a : Option Addr) (n c : Nat) (w : World) :
    Calls Try.prog 33 #[.string root, .slice a n c] w fun e w' => e = .returned (.pointer (some ⟨w.heap.size, 0, none⟩)) ∧ w' = w.alloc (.cells #[.string root, .slice a n c, .slice none 0 0, .slice none 0 0, .slice none 0 0] 69) := by
  go_enter Try.func33, Try.ntmps33
  go_wp2
  go_ret
  exact ⟨rfl, rfl⟩

theorem sum_start (root : ByteArray) (nm : Value) (w : World) : Sum (w.alloc (.cells #[.string root, nm, .slice none 0 0, .slice none 0 0, .slice none 0 0] 69)) w.heap.size root nm (.slice none 0 0) 0 [] :=
  ⟨World.rowIs_alloc w _ 69 _ (fun i hi => by
    match i, hi with
    | 0, _ => rfl
    | 1, _ => rfl
    | 2, _ => rfl
    | 3, _ => rfl
    | 4, _ => rfl), World.ownsRow_nil _ _ _ _⟩

theorem add_ne {w : World} {g : Nat} {root : ByteArray} {nm v : Value} {k : Nat} {xs : List Value} (h : Sum w g root nm v k xs) : some g ≠ v.ownBlock := fun e => by
  have := (h.own.lt g e.symm).1
  omega
theorem add_row {w w1 : World} {g : Nat} {root : ByteArray} {nm v : Value} {k : Nat} {xs : List Value} {o : Obj} (h : Sum w g root nm v k xs) (hgrow : (w.alloc o).grownBy w1 v.ownBlock) : w1.rowIs g 69 5 (sf root nm v) ∧ w.Since g w1 := by
  have hg := h.row.lt
  have hb : ∀ j, j ≤ g → w1.heap[j]? = w.heap[j]? := fun j hj => by
    rw [hgrow.block j (by simp; omega) (fun e => by have := (h.own.lt j e.symm).1; omega)]
    exact Below.heap_alloc _ _ _ (by omega)
  exact ⟨h.row.of_block (hb g (Nat.le_refl _)), ⟨hgrow.os, hgrow.tape, hgrow.output, by have := hgrow.size; simp at this; omega, fun j hj => hb j (by omega)⟩⟩
theorem add_sum {w w1 : World} {g : Nat} {root : ByteArray} {nm v v' : Value} {k k' : Nat} {xs xs' : List Value} {o : Obj} (h : Sum w g root nm v k xs) (hgrow : (w.alloc o).grownBy w1 v.ownBlock)
    (hown : w1.ownsRow (g + 1) 71 5 v' k' xs') : Sum (w1.setCell ⟨g, 2, none⟩ v') g root nm v' k' xs' ∧ w.Since g (w1.setCell ⟨g, 2, none⟩ v') := by
  obtain ⟨R, S⟩ := add_row h hgrow
  refine ⟨⟨(R.set 2 v').congr (fun i hi => ?_), ownsRow_setCell_below hown (by show g < g + 1; omega) _⟩, S.setCell (Nat.le_refl _) _⟩
  match i, hi with
  | 0, _ => rfl
  | 1, _ => rfl
  | 2, _ => rfl
  | 3, _ => rfl
  | 4, _ => rfl

def AddPost (g : Nat) (root : ByteArray) (nm : Value) (k : Nat) (xs : List Value) (w : World) (e : Ending) (w' : World) : Prop :=
  e = .returned (.tuple #[]) ∧ ∃ v', Sum w' g root nm v' (k + 1) xs ∧ w.Since g w' ∧ g < w'.heap.size

set_option maxRecDepth 100000 in
set_option maxHeartbeats 1000000 in
theorem add_any (g : Nat) (root : ByteArray) (nm v : Value) (k : Nat) (xs : List Value) (w : World) (nam up sib : Int) (aa : Option Addr) (al ac : Nat) (tx : Bool) (hk : k ≤ 1048576) (hS : Sum w g root nm v k xs) :
    Calls Try.prog 34 #[.pointer (some ⟨g, 0, none⟩), .int .i64 nam, .slice aa al ac, .bool tx, .int .i64 up, .int .i64 sib] w
      (AddPost g root nm k (xs ++ [.int .i64 nam, .slice aa al ac, .bool tx, .int .i64 up, .int .i64 sib]) w) := by
  obtain ⟨i0, hi, hz0, hz1, hz2⟩ := info_parts info71
  have hg : g < w.heap.size := hS.row.lt
  have g0 : w.cell? ⟨g, 2, none⟩ = some v := hS.row.cell (i := 2) (by omega)
  have HS := hide hS
  clear hS
  go_enter Try.func34, Try.ntmps34
  go_wp2_with (at_builtin; refine wpList_append_lies _ rfl (.tmp 16) (.tmp 23) 65 rfl (g + 1) 71 i0 _ 5 56 Try.underlying65 hi hz0 hz1 hz2 rfl (by decide) v k xs rfl (HS.out.own.alloc _) ⟨w.heap.size, 0, none⟩ 1 1 [.int .i64 nam, .slice aa al ac, .bool tx, .int .i64 up, .int .i64 sib] rfl rfl ?c1 ?c2 (by decide) ?c3 ?c4 ?c5 _ rfl ?_)
  case c1 => exact World.news_of_block (cs := #[.int .i64 nam, .slice aa al ac, .bool tx, .int .i64 up, .int .i64 sib]) (heap_alloc_new w _)
  case c2 => intro u hu; simp at hu; rcases hu with rfl | rfl | rfl | rfl | rfl <;> rfl
  case c3 => unfold maxLen; omega
  case c4 => omega
  case c5 => simp; omega
  intro g1 cap w1 hown1 hgrow hat hlt1
  have R := add_row HS.out hgrow
  have k0 : w1.cell? ⟨g, 2, none⟩ = some v := R.1.cell (i := 2) (by omega)
  have k1 : w1.frozen? ⟨g, 2, none⟩ = false := R.1.frozen 2
  have HF := hide (add_sum HS.out hgrow hown1)
  clear hown1 hgrow hat R g0 hz0 hz1 hz2
  go_wp2
  go_end0
  exact ⟨rfl, _, HF.out.1, HF.out.2, by have := HF.out.1.row.lt; exact this⟩

end Go.Proofs.Qxb6601879a
