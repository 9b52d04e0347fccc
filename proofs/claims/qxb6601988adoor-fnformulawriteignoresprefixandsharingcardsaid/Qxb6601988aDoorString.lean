/-
  (*strings.Builder).String (9) of a builder that holds a byte, with a second builder beside it: the blocks made later stand.
-/
import Derived.Test.Qxb6601988aDoorWrite
namespace Go.Proofs.Qxb6601988aDoor
open Go.RowKit Go.Deep

theorem cells5 : Tryd.prog.cellsOf 5 = 1 := by kernel_rfl

theorem freeze_other (w : World) (g n k : Nat) (h : k ≠ g) : (w.freeze ⟨g, 0, none⟩ n).heap[k]? = w.heap[k]? := by
  unfold World.freeze
  split
  · rfl
  · simp only [Array.getElem?_modify]
    split
    · rename_i e
      exact absurd e.symm h
    · rfl

def StrPost (B C : Nat) (l : List UInt8) (w : World) (e : Ending) (w' : World) : Prop := e = .returned (.string ⟨l.toArray⟩) ∧ Below B w w' ∧ ∀ k, C ≤ k → w'.heap[k]? = w.heap[k]?

set_option maxHeartbeats 1000000 in
set_option maxRecDepth 100000 in
theorem string_first (B b : Nat) (l : List UInt8) (w0 w : World) (h : Bld B b l w0) (h0 : l ≠ []) (hs : w0.Since w0.heap.size w) :
    Calls Tryd.prog 9 #[.pointer (some ⟨b, 0, none⟩)] w (StrPost B w0.heap.size l w) := by
  have hl0 : l.length ≠ 0 := by simpa using h0
  obtain ⟨p, hB, v, hbk, hown, hne⟩ : ∃ p, Lib.BuilderAtF 31 5 B b p (Lib.byteCells l) w0 := by
    rcases h.1 with h | h
    · exact ⟨_, h⟩
    · exact ⟨_, h⟩
  rw [Lib.byteCells_length] at hown
  obtain ⟨g, cap, cur, fz, rfl, hbg, hg, hfz, hnc, hcm, hcs, htake⟩ : ∃ g cap cur fz, v = .slice (some ⟨g, 0, none⟩) l.length cap ∧ B ≤ g ∧ w0.heap[g]? = some (.cells cur 5 fz) ∧ fz.2 ≤ l.length * 1 ∧ l.length ≤ cap ∧ cap ≤ maxLen ∧ cur.size = cap * 1 ∧ cur.toList.take (l.length * 1) = Lib.byteCells l := by
    rcases hown.2 with ⟨_, hz⟩ | ⟨g, cap, cur, fz, hv, r⟩
    · exact absurd hz hl0
    · exact ⟨g, cap, cur, fz, hv, r⟩
  have hglt : g < w0.heap.size := heap_lt hg
  have hbk' : w.heap[b]? = some (.cells #[p, .slice (some ⟨g, 0, none⟩) l.length cap] 31 (0, 0)) := by rw [hs.block _ (heap_lt hbk)]; exact hbk
  have hg' : w.drew.heap[g]? = some (.cells cur 5 fz) := by show w.heap[g]? = _; rw [hs.block _ hglt]; exact hg
  have c1 : w.drew.cell? ⟨b, 1, none⟩ = some (.slice (some ⟨g, 0, none⟩) l.length cap) := by
    have e : w.drew.heap[b]? = some (.cells #[p, .slice (some ⟨g, 0, none⟩) l.length cap] 31 (0, 0)) := hbk'
    rw [Lib.cell_of_heap e]; rfl
  have hSD : (Builtin.unsafeSliceData_ #[29] 62 #[.slice (some ⟨g, 0, none⟩) l.length cap]).run Tryd.prog w.drew = .ok (.pointer (some ⟨g, 0, none⟩)) w.drew :=
    Lib.run_unsafeSliceData_row _ _ _ _ _ _ (by omega)
  have hUS : (Builtin.unsafeString_ #[62, 3] 9 #[.pointer (some ⟨g, 0, none⟩), .int .i64 l.length]).run Tryd.prog w.drew = .ok (.string ⟨l.toArray⟩) (w.drew.freeze ⟨g, 0, none⟩ l.length) := by
    refine Lib.run_unsafeString_row w.drew 62 3 9 5 Tryd.underlying62 cells5 g cur.size (by simp [World.shape?, hg']) l h0 (by omega) (by unfold maxLen at hcm; omega) ?_
    intro j x hx
    have h1 := hown.cells (g := g) rfl j (.int .u8 x.toNat) (by simp [Lib.byteCells, hx])
    show w.cell? _ = _
    rw [hs.cell (World.block_lt_of_cell? _ _ h1)]
    exact h1
  have HOut : Hid (StrPost B w0.heap.size l w (.returned (.string ⟨l.toArray⟩)) (w.drew.freeze ⟨g, 0, none⟩ l.length)) :=
    ⟨rfl, Lib.below_freeze (Below.drew (Below.refl B w)) (p := ⟨g, 0, none⟩) hbg _, fun k hk => freeze_other w.drew g l.length k (by omega)⟩
  clear hg hg' hbk hbk' hown hfz hnc hcm hcs htake hs h
  go_enter Tryd.func9, Tryd.ntmps9
  go_wp2
  go_region
  all_goals (go_wp2; go_ret; exact HOut.out)

theorem Bld.above {B b C : Nat} {l : List UInt8} {w w' : World} (h : Bld B b l w) (hC : C ≤ B) (hs : w.heap.size ≤ w'.heap.size) (hk : ∀ k, C ≤ k → w'.heap[k]? = w.heap[k]?) : Bld B b l w' := by
  have key : ∀ p, Lib.BuilderAtF 31 5 B b p (Lib.byteCells l) w → Lib.BuilderAtF 31 5 B b p (Lib.byteCells l) w' := by
    rintro p ⟨h0, v, hb, ⟨h1, h2⟩, hne⟩
    refine ⟨h0, v, by rw [hk _ (by omega)]; exact hb, ⟨h1, ?_⟩, hne⟩
    rcases h2 with h2 | ⟨g, cap, cur, fz, a1, a2, a3, a4⟩
    · exact .inl h2
    · exact .inr ⟨g, cap, cur, fz, a1, a2, by rw [hk _ (by omega)]; exact a3, a4⟩
  refine ⟨?_, Nat.le_trans h.2 hs⟩
  rcases h.1 with h1 | h1
  · exact .inl (key _ h1)
  · exact .inr (key _ h1)

end Go.Proofs.Qxb6601988aDoor
