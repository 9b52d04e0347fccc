/-
  strings.Builder's writers at this dump: copyCheck (14), WriteByte (27), WriteString (6): a builder that the call itself has made ('Lib.IsBuilderF'); the frames 'Below' and 'Lib.OthersKept', as the shelf's forms '_k' have them.
-/
import Derived.Test.Qxb6601988aDoorRaw
import Derived.WalkKit
import Derived.WalkSpells
import Derived.WalkLawsBesides
import Derived.Below
import Derived.Outline
import Derived.Deep.OwnRows
import Derived.LoopTactic
import Derived.Laws.Externs
import Derived.Lib.FrozenHead2
import Derived.Lib.OthersKept
namespace Go.Proofs.Qxb6601988aDoor
open Go.RowKit

theorem info5 : (Tryd.prog.info? 5).map (fun i => (i.zero, i.size, i.bytes)) = some (some (.int .u8 0), 1, 1) := by kernel_rfl

set_option maxHeartbeats 1000000 in
set_option maxRecDepth 100000 in
theorem copyCheck_used (b : Nat) (w : World) (h0 : w.cell? ⟨b, 0, none⟩ = some (.pointer (some ⟨b, 0, none⟩))) :
    Calls Tryd.prog 14 #[.pointer (some ⟨b, 0, none⟩)] w fun e w' => e = .returned (.tuple #[]) ∧ w' = w := by
  obtain ⟨j, hj, _⟩ := Option.map_eq_some_iff.1 size31
  have hne := fun (wx : World) => Lib.run_neq_ptr_same (P := Tryd.prog) wx ⟨b, 0, none⟩ Tryd.underlying28 hj
  go_enter Tryd.func14, Tryd.ntmps14
  go_wp2
  go_end0
  exact ⟨rfl, rfl⟩

set_option maxHeartbeats 1000000 in
set_option maxRecDepth 100000 in
theorem copyCheck_fresh (b : Nat) (w : World) (h0 : w.cell? ⟨b, 0, none⟩ = some (.pointer none)) (hsh : w.shape? b = some (31, 2)) (hfz : w.frozen? ⟨b, 0, none⟩ = false) :
    Calls Tryd.prog 14 #[.pointer (some ⟨b, 0, none⟩)] w fun e w' => e = .returned (.tuple #[]) ∧ w' = w.setCell ⟨b, 0, none⟩ (.pointer (some ⟨b, 0, none⟩)) := by
  obtain ⟨j, hj, hjs⟩ := Option.map_eq_some_iff.1 size31
  have hne := fun (wx : World) => Lib.run_neq_ptr_same (P := Tryd.prog) wx ⟨b, 0, none⟩ Tryd.underlying28 hj
  have hto := to_raw b w hsh
  have hfrom := from_raw b w hsh
  have hx : ∀ (x : Value) (wx : World), (callFunc 25 #[x]).run Tryd.prog wx = .ok (.value x) wx := fun x wx => by
    rw [run_callFunc_extern Tryd.func25 (by kernel_rfl) (by kernel_rfl) (by kernel_rfl) (e := Extern.AbiNoEscape.same) (by kernel_rfl), Lib.run_noEscape]
    rfl
  go_enter Tryd.func14, Tryd.ntmps14
  go_wp2
  go_end0
  exact ⟨rfl, rfl⟩

/-- Every row of cells that is neither bytes nor a builder stands as it stood. -/
def Keeps (w w' : World) : Prop := ∀ (k : Nat) (cs : Array Value) (t : TypeId) (fz : Nat × Nat), w.heap[k]? = some (.cells cs t fz) → t ≠ 5 → t ≠ 31 → w'.heap[k]? = some (.cells cs t fz)
theorem Keeps.refl (w : World) : Keeps w w := fun _ _ _ _ h _ _ => h
theorem Keeps.trans {a b c : World} (h : Keeps a b) (k : Keeps b c) : Keeps a c := fun i cs t fz hi h5 h31 => k i cs t fz (h i cs t fz hi h5 h31) h5 h31
theorem Keeps.since {w w' : World} (h : w.Since w.heap.size w') : Keeps w w' := fun k cs t fz hk _ _ => by
  rw [h.block k (Array.getElem?_eq_some_iff.1 hk).1]
  exact hk
theorem Keeps.others {w w' : World} {b : Nat} (h : Lib.OthersKept 5 (some b) w w') {p v : Value} (hb : w.heap[b]? = some (.cells #[p, v] 31 (0, 0))) : Keeps w w' := fun k cs t fz hk h5 h31 => by
  refine h k _ hk (fun e => ?_) (fun c fz' e => ?_)
  · have e' : k = b := by simpa using e
    subst e'
    rw [hk] at hb
    injection hb with hb
    injection hb with _ h2 _
    exact h31 h2
  · injection e with _ h2 _
    exact h5 h2

/-- A builder of the call's own in block b (from block B on), that holds the bytes l. -/
def Bld (B b : Nat) (l : List UInt8) (w : World) : Prop := Lib.IsBuilderF 31 5 B b (Lib.byteCells l) w ∧ B ≤ w.heap.size
theorem Bld.block {B b : Nat} {l : List UInt8} {w : World} (h : Bld B b l w) : ∃ p v, w.heap[b]? = some (.cells #[p, v] 31 (0, 0)) := by
  rcases h.1 with ⟨_, v, hb, _⟩ | ⟨_, v, hb, _⟩
  · exact ⟨_, v, hb⟩
  · exact ⟨_, v, hb⟩

/-- What a writer leaves. -/
structure Wrote (B b : Nat) (l : List UInt8) (w w' : World) : Prop where
  bld : Bld B b l w'
  below : Below B w w'
  keeps : Keeps w w'
theorem Wrote.trans {B b : Nat} {l l' : List UInt8} {w w' w'' : World} (h : Wrote B b l w w') (k : Wrote B b l' w' w'') : Wrote B b l' w w'' := ⟨k.bld, h.below.trans k.below, h.keeps.trans k.keeps⟩

theorem copyCheck_any (B b : Nat) (bs : List Value) (w : World) (h : Lib.IsBuilderF 31 5 B b bs w) :
    Calls Tryd.prog 14 #[.pointer (some ⟨b, 0, none⟩)] w fun e w' => e = .returned (.tuple #[]) ∧ (Lib.BuilderAtF 31 5 B b (.pointer (some ⟨b, 0, none⟩)) bs w' ∧ Below B w w' ∧ Lib.OthersKept 5 (some b) w w') := by
  rcases h with h | h
  · refine (copyCheck_fresh b w h.cell0 h.shape h.frozen0).mono ?_
    rintro e w' ⟨rfl, rfl⟩
    exact ⟨rfl, h.used _, (Below.refl B w).setCell (p := ⟨b, 0, none⟩) h.1 _, (Lib.OthersKept.refl _ _ w).setCell ⟨b, 0, none⟩ rfl _⟩
  · refine (copyCheck_used b w h.cell0).mono ?_
    rintro e w' ⟨rfl, rfl⟩
    exact ⟨rfl, h, Below.refl B _, Lib.OthersKept.refl _ _ _⟩

theorem heap_lt {w : World} {b : Nat} {o : Obj} (h : w.heap[b]? = some o) : b < w.heap.size := (Array.getElem?_eq_some_iff.1 h).1

/-- What is left behind an append to the builder's row and the store of the new slice. -/
theorem wrote_of {B b : Nat} {l new : List UInt8} {w w1 w2 : World} {o : Option Obj} {p0 v0 v v' : Value} (hBw : B ≤ w.heap.size) (hblk : w.heap[b]? = some (.cells #[p0, v0] 31 (0, 0)))
    (hb1 : Below B w w1) (hk1 : Lib.OthersKept 5 (some b) w w1) (h1 : Lib.BuilderAtF 31 5 B b (.pointer (some ⟨b, 0, none⟩)) (Lib.byteCells l) w1) (hv : w1.heap[b]? = some (.cells #[.pointer (some ⟨b, 0, none⟩), v] 31 (0, 0)))
    (hown : w1.ownsRowF B 5 1 v (Lib.byteCells l).length (Lib.byteCells l)) (hne : v.ownBlock ≠ some b)
    (hgrow : ((o.elim w1 w1.alloc)).grownBy w2 v.ownBlock) (hown' : w2.ownsRowF B 5 1 v' (Lib.byteCells (l ++ new)).length (Lib.byteCells (l ++ new))) :
    w2.heap[b]? = some (.cells #[.pointer (some ⟨b, 0, none⟩), v] 31 (0, 0)) ∧ Wrote B b (l ++ new) w (w2.setCell ⟨b, 1, none⟩ v') := by
  have hlt := heap_lt hv
  have hB := h1.1
  have hsz := hb1.size
  have hb2 : w2.heap[b]? = some (.cells #[.pointer (some ⟨b, 0, none⟩), v] 31 (0, 0)) := by
    cases o with
    | none =>
      rw [hgrow.block b hlt (fun e => hne e.symm)]
      exact hv
    | some o =>
      rw [hgrow.block b (by show b < (w1.alloc o).heap.size; simp; omega) (fun e => hne e.symm)]
      exact (Lib.alloc_old w1 o b hlt).trans hv
  have hbel : Below B w w2 := by
    cases o with
    | none => exact hb1.grown hgrow (by show B ≤ w1.heap.size; omega) (fun k hk => (hown.lt k hk).1)
    | some o => exact (hb1.alloc (by omega) o).grown hgrow (by show B ≤ (w1.alloc o).heap.size; simp; omega) (fun k hk => (hown.lt k hk).1)
  have hoth : Lib.OthersKept 5 (some b) w w2 := by
    cases o with
    | none => exact hk1.grown hgrow (Lib.ownsRowF_kind hown)
    | some o => exact (hk1.alloc o).grown hgrow (Lib.ownsRowF_kind (hown.alloc _))
  have hput : Lib.BuilderAtF 31 5 B b (.pointer (some ⟨b, 0, none⟩)) (Lib.byteCells (l ++ new)) (w2.setCell ⟨b, 1, none⟩ v') := Lib.BuilderAtF.put hB hb2 hown' (by decide)
  have hbel2 := hbel.setCell (p := ⟨b, 1, none⟩) hB v'
  exact ⟨hb2, ⟨.inr hput, by have := hbel2.size; omega⟩, hbel2, Keeps.others (hoth.setCell ⟨b, 1, none⟩ rfl _) hblk⟩

set_option maxHeartbeats 2000000 in
set_option maxRecDepth 100000 in
theorem writeByte_any (B b : Nat) (l : List UInt8) (c : UInt8) (w : World) (h : Bld B b l w) (hlen : l.length ≤ 1073741824) :
    Calls Tryd.prog 27 #[.pointer (some ⟨b, 0, none⟩), .int .u8 c.toNat] w fun e w' => e = .returned .nilIface ∧ Wrote B b (l ++ [c]) w w' := by
  obtain ⟨p0, v0, hblk⟩ := h.block
  obtain ⟨h, hBw⟩ := h
  have hlen' : (Lib.byteCells l).length = l.length := Lib.byteCells_length l
  have HL := hide hlen'
  have HK := hide hblk
  have HI := hide h
  clear hlen' hblk h
  obtain ⟨i0, hi, hz0, hz1, hz2⟩ := info_parts info5
  go_enter Tryd.func27, Tryd.ntmps27
  go_wp2_with fail
  refine (copyCheck_any B b (Lib.byteCells l) w HI.out).mono ?_
  rintro e w1 ⟨rfl, h1, hb1, hk1⟩
  have HAt := hide h1
  obtain ⟨hB, v, hbk, hown, hne⟩ := h1
  have c0 : w1.cell? ⟨b, 0, none⟩ = some (.pointer (some ⟨b, 0, none⟩)) := by rw [Lib.cell_of_heap hbk]; rfl
  have c1 : w1.cell? ⟨b, 1, none⟩ = some v := by rw [Lib.cell_of_heap hbk]; rfl
  have hsz := hb1.size
  have HBK := hide hbk
  have HB1 := hide hb1
  have HK1 := hide hk1
  have HNE := hide hne
  have HLn : Hid ((Lib.byteCells l).length ≤ 1073741824) := by rw [HL.out]; exact hlen
  clear hbk hb1 hk1 hne
  go_wp2_with (at_builtin; refine wpList_append_ownF _ rfl _ _ 29 rfl B 5 i0 (.int .u8 0) 1 1 Tryd.underlying29 hi hz0 hz1 hz2 rfl (by decide) _ _ _ rfl (hown.alloc _) ⟨w1.heap.size, 0, none⟩ 1 1 [.int .u8 c.toNat] rfl rfl ?c1 ?c2 ?c3 ?c4 ?c5 ?_)
  case c1 =>
    intro j u hj
    match j, hj with
    | 0, hj => simp at hj; subst hj; simp [Addr.add]
  case c2 => intro u hu; simp at hu; subst hu; rfl
  case c3 => have := HLn.out; unfold maxLen; omega
  case c4 => have := HLn.out; omega
  case c5 => simp; omega
  intro v' w2 hown' hgrow _
  obtain ⟨g, cap, rfl⟩ : ∃ g cap, v' = .slice (some ⟨g, 0, none⟩) ((Lib.byteCells l).length + 1) cap := by
    rcases hown'.2 with ⟨_, h0⟩ | ⟨g, cap, cur, fz, hv, _⟩
    · omega
    · exact ⟨g, cap, hv⟩
  have HW := wrote_of (o := some (.cells #[.int .u8 c.toNat] 5)) (l := l) (new := [c]) hBw HK.out HB1.out HK1.out HAt.out HBK.out hown HNE.out hgrow (by rw [Lib.byteCells_append, List.length_append]; exact hown')
  have d0 : w2.cell? ⟨b, 0, none⟩ = some (.pointer (some ⟨b, 0, none⟩)) := by rw [Lib.cell_of_heap HW.1]; rfl
  have d1 : w2.cell? ⟨b, 1, none⟩ = some v := by rw [Lib.cell_of_heap HW.1]; rfl
  have f1 : w2.frozen? ⟨b, 1, none⟩ = false := Lib.frozen_of_heap HW.1 1
  have HW2 := hide HW.2
  clear HW hown' hgrow hown
  go_wp2
  go_ret
  exact ⟨rfl, HW2.out⟩

set_option maxHeartbeats 2000000 in
set_option maxRecDepth 100000 in
theorem writeString_any (B b : Nat) (l : List UInt8) (s : ByteArray) (w : World) (h : Bld B b l w) (hlen : l.length ≤ 1073741824) (hs : s.size ≤ 1073741824) :
    Calls Tryd.prog 6 #[.pointer (some ⟨b, 0, none⟩), .string s] w fun e w' => e = .returned (.tuple #[.int .i64 s.size, .nilIface]) ∧ Wrote B b (l ++ s.data.toList) w w' := by
  obtain ⟨p0, v0, hblk⟩ := h.block
  obtain ⟨h, hBw⟩ := h
  have hlen' : (Lib.byteCells l).length = l.length := Lib.byteCells_length l
  have HL := hide hlen'
  have HK := hide hblk
  have HI := hide h
  clear hlen' hblk h
  obtain ⟨i0, hi, hz0, hz1, hz2⟩ := info_parts info5
  go_enter Tryd.func6, Tryd.ntmps6
  go_wp2_with fail
  refine (copyCheck_any B b (Lib.byteCells l) w HI.out).mono ?_
  rintro e w1 ⟨rfl, h1, hb1, hk1⟩
  have HAt := hide h1
  obtain ⟨hB, v, hbk, hown, hne⟩ := h1
  have c0 : w1.cell? ⟨b, 0, none⟩ = some (.pointer (some ⟨b, 0, none⟩)) := by rw [Lib.cell_of_heap hbk]; rfl
  have c1 : w1.cell? ⟨b, 1, none⟩ = some v := by rw [Lib.cell_of_heap hbk]; rfl
  have hsz := hb1.size
  have HBK := hide hbk
  have HB1 := hide hb1
  have HK1 := hide hk1
  have HNE := hide hne
  have HLn : Hid ((Lib.byteCells l).length ≤ 1073741824) := by rw [HL.out]; exact hlen
  clear hbk hb1 hk1 hne
  go_wp2_with (at_builtin; refine Lib.wpList_append_own_stringF _ rfl _ _ 29 9 rfl B 5 i0 Tryd.underlying29 Tryd.underlying9 hi hz0 hz1 hz2 _ _ _ rfl hown s rfl ?c3 ?c4 ?c5 ?_)
  case c3 => have := HLn.out; unfold maxLen; omega
  case c4 => have := HLn.out; omega
  case c5 => omega
  intro v' w2 hown' hgrow _
  obtain ⟨ao, n', cap, rfl⟩ : ∃ ao n' cap, v' = .slice ao n' cap := by
    rcases hown'.2 with ⟨hv, _⟩ | ⟨g, cap, cur, fz, hv, _⟩
    · exact ⟨_, _, _, hv⟩
    · exact ⟨_, _, _, hv⟩
  have HW := wrote_of (o := none) (l := l) (new := s.data.toList) hBw HK.out HB1.out HK1.out HAt.out HBK.out hown HNE.out hgrow (by rw [Lib.byteCells_append, List.length_append, ← Lib.strCells_eq, Lib.strCells_length]; exact hown')
  have d0 : w2.cell? ⟨b, 0, none⟩ = some (.pointer (some ⟨b, 0, none⟩)) := by rw [Lib.cell_of_heap HW.1]; rfl
  have d1 : w2.cell? ⟨b, 1, none⟩ = some v := by rw [Lib.cell_of_heap HW.1]; rfl
  have f1 : w2.frozen? ⟨b, 1, none⟩ = false := Lib.frozen_of_heap HW.1 1
  have HW2 := hide HW.2
  clear HW hown' hgrow hown
  go_wp2
  go_ret2
  exact ⟨rfl, HW2.out⟩

theorem string_any (B b : Nat) (l : List UInt8) (w : World) (h : Bld B b l w) :
    Calls Tryd.prog 9 #[.pointer (some ⟨b, 0, none⟩)] w fun e w' => e = .returned (.string ⟨l.toArray⟩) ∧ Below B w w' ∧ Bld B b l w' := by
  refine (Tryd.Builder_String_any_k B b l w h.1 h.2).mono ?_
  rintro e w' ⟨rfl, h1, h2, _⟩
  exact ⟨rfl, h2, h1, by have := h2.size; have := h.2; omega⟩

end Go.Proofs.Qxb6601988aDoor
