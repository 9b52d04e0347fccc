/-
  (*strings.Builder).String (9) of a builder that holds a byte, with a second builder beside it: the blocks made later stand.
-/
import Derived.Test.Qxb6601988aDoorWrite
namespace Go.Proofs.Qxb6601988aDoor
open Go.RowKit Go.Deep

theorem cells5 : Tryd.prog.cellsOf 5 = 1 := by kernel_rfl

theorem freeze_other (w : World) (g n k : Nat) (h : k ≠ g) : (w.freeze ⟨g, 0, none⟩ n).heap[k]? = w.heap[k]? := by
  unfold World.freeze
  split
  · rfl
  · simp only [Array.getElem?_modify]
    split
    · rename_i e
      exact absurd e.symm h
    · rfl

/-- The builtin that operation i of String's one statement calls, as a function. -/
def stmtOps (fn : Func) : List Oper := match fn.body with
  | some (.seq _ (.seq (.region _ os _) _)) => os.toList
  | _ => []
def calledBy (o : Oper) : Option Builtin := match o.op with
  | .call c => (match c.callee with
    | .builtin b => some b
    | _ => none)
  | _ => none
def Called (i : Nat) (f : Array TypeId → TypeId → Array Value → Sem Value) : Prop :=
  ∃ X, ((stmtOps Tryd.f9)[i]?).bind calledBy = some X ∧ ∀ ats ty cs args, builtin X ats ty cs args = (do pure (.value (← f ats ty args)))
theorem told (i : Nat) {f : Array TypeId → TypeId → Array Value → Sem Value} (_ : Called i f) {ats : Array TypeId} {ty : TypeId} {args : Array Value} {w : World} {r : Result Value} (h : (f ats ty args).run Tryd.prog w = r) : (f ats ty args).run Tryd.prog w = r := h

def StrPost (B C : Nat) (l : List UInt8) (w : World) (e : Ending) (w' : World) : Prop := e = .returned (.string ⟨l.toArray⟩) ∧ Below B w w' ∧ ∀ k, C ≤ k → w'.heap[k]? = w.heap[k]?

set_option maxHeartbeats 1000000 in
set_option maxRecDepth 100000 in
theorem string_first (B b : Nat) (l : List UInt8) (w0 w : World) (h : Bld B b l w0) (h0 : l ≠ []) (hs : w0.Since w0.heap.size w) :
    Calls Tryd.prog 9 #[.pointer (some ⟨b, 0, none⟩)] w (StrPost B w0.heap.size l w) := by
  have hl0 : l.length ≠ 0 := by simpa using h0
  obtain ⟨p, hB, v, hbk, hown, hne⟩ : ∃ p, Lib.BuilderAtF 31 5 B b p (Lib.byteCells l) w0 := by
    rcases h.1 with h | h
    · exact ⟨_, h⟩
    · exact ⟨_, h⟩
  rw [Lib.byteCells_length] at hown
  obtain ⟨g, cap, cur, fz, rfl, hbg, hg, hfz, hnc, hcm, hcs, htake⟩ : ∃ g cap cur fz, v = .slice (some ⟨g, 0, none⟩) l.length cap ∧ B ≤ g ∧ w0.heap[g]? = some (.cells cur 5 fz) ∧ fz.2 ≤ l.length * 1 ∧ l.length ≤ cap ∧ cap ≤ maxLen ∧ cur.size = cap * 1 ∧ cur.toList.take (l.length * 1) = Lib.byteCells l := by
    rcases hown.2 with ⟨_, hz⟩ | ⟨g, cap, cur, fz, hv, r⟩
    · exact absurd hz hl0
    · exact ⟨g, cap, cur, fz, hv, r⟩
  have hglt : g < w0.heap.size := heap_lt hg
  have hbk' : w.heap[b]? = some (.cells #[p, .slice (some ⟨g, 0, none⟩) l.length cap] 31 (0, 0)) := by rw [hs.block _ (heap_lt hbk)]; exact hbk
  have hg' : w.drew.heap[g]? = some (.cells cur 5 fz) := by show w.heap[g]? = _; rw [hs.block _ hglt]; exact hg
  have c1 : w.drew.cell? ⟨b, 1, none⟩ = some (.slice (some ⟨g, 0, none⟩) l.length cap) := by
    have e : w.drew.heap[b]? = some (.cells #[p, .slice (some ⟨g, 0, none⟩) l.length cap] 31 (0, 0)) := hbk'
    rw [Lib.cell_of_heap e]; rfl
  have hSD := told 4 ⟨_, rfl, fun _ _ _ _ => rfl⟩ (ats := #[29]) (ty := 62) (args := #[.slice (some ⟨g, 0, none⟩) l.length cap]) (w := w.drew) (r := .ok (.pointer (some ⟨g, 0, none⟩)) w.drew) (by
    obtain ⟨k, rfl⟩ : ∃ k, cap = k + 1 := ⟨cap - 1, by omega⟩
    rfl)
  have hUS := told 10 ⟨_, rfl, fun _ _ _ _ => rfl⟩ (ats := #[62, 3]) (ty := 9) (args := #[.pointer (some ⟨g, 0, none⟩), .int .i64 l.length]) (w := w.drew) (r := .ok (.string ⟨l.toArray⟩) (w.drew.freeze ⟨g, 0, none⟩ l.length)) (by
    have hlb := Lib.run_loadBytes (P := Tryd.prog) w.drew l ⟨g, 0, none⟩ .empty (fun j x hx => by
      have h1 := hown.cells (g := g) rfl j (.int .u8 x.toNat) (by simp [Lib.byteCells, hx])
      show w.cell? _ = _
      rw [hs.cell (World.block_lt_of_cell? _ _ h1)]
      exact h1)
    have hsh : w.drew.shape? g = some (5, cur.size) := by simp [World.shape?, hg']
    have hlies := Lib.liesAt_bytes (P := Tryd.prog) cells5 (cur.size / Tryd.prog.cellsOf 5) l.length (by rw [cells5]; simp; omega)
    have h63' : ¬ (9223372036854775807 : Int) < (l.length : Int) := by unfold maxLen at hcm; omega
    have hmax : IntKind.i64.max = 9223372036854775807 := rfl
    have hneg : ¬ (l.length : Int) < 0 := by omega
    have h62 := run_underlying Tryd.underlying62
    change Sem.run Tryd.prog (asInt (.int .i64 (l.length : Int)) >>= _) w.drew = _
    simp [asInt, asIntOf, hmax, h63', hneg, hl0, variablesAt, hsh, elemOf, h62, hlies, hlb])
  have HOut : Hid (StrPost B w0.heap.size l w (.returned (.string ⟨l.toArray⟩)) (w.drew.freeze ⟨g, 0, none⟩ l.length)) :=
    ⟨rfl, Lib.below_freeze (Below.drew (Below.refl B w)) (p := ⟨g, 0, none⟩) hbg _, fun k hk => freeze_other w.drew g l.length k (by omega)⟩
  clear hg hg' hbk hbk' hown hfz hnc hcm hcs htake hs h
  go_enter Tryd.func9, Tryd.ntmps9
  go_wp2
  go_region
  all_goals (go_wp2; go_ret; exact HOut.out)

theorem Bld.above {B b C : Nat} {l : List UInt8} {w w' : World} (h : Bld B b l w) (hC : C ≤ B) (hs : w.heap.size ≤ w'.heap.size) (hk : ∀ k, C ≤ k → w'.heap[k]? = w.heap[k]?) : Bld B b l w' := by
  have key : ∀ p, Lib.BuilderAtF 31 5 B b p (Lib.byteCells l) w → Lib.BuilderAtF 31 5 B b p (Lib.byteCells l) w' := by
    rintro p ⟨h0, v, hb, ⟨h1, h2⟩, hne⟩
    refine ⟨h0, v, by rw [hk _ (by omega)]; exact hb, ⟨h1, ?_⟩, hne⟩
    rcases h2 with h2 | ⟨g, cap, cur, fz, a1, a2, a3, a4⟩
    · exact .inl h2
    · exact .inr ⟨g, cap, cur, fz, a1, a2, by rw [hk _ (by omega)]; exact a3, a4⟩
  refine ⟨?_, Nat.le_trans h.2 hs⟩
  rcases h.1 with h1 | h1
  · exact .inl (key _ h1)
  · exact .inr (key _ h1)

end Go.Proofs.Qxb6601988aDoor
