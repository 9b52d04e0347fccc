/-
  FnFormulaWriteIgnoresPrefixAndSharing (3): it returns true.
-/
import Derived.Test.Qxb6601988aDoorBudget2
import Derived.Test.Qxb6601988aDoorBuild2
import Derived.Test.Qxb6601988aDoorWrite2
import Derived.Test.Qxb6601988aDoorString
namespace Go.Proofs.Qxb6601988aDoor
open Go.RowKit Go.Deep

def TopPost (w : World) (e : Ending) (w' : World) : Prop := e = .returned (.bool true) ∧ Below w.heap.size w w'

theorem bld_new (w : World) : Bld w.heap.size w.heap.size [] (w.alloc (.cells #[.pointer none, .slice none 0 0] 31)) :=
  ⟨.inl ⟨Nat.le_refl _, .slice none 0 0, blk_alloc_new _ _, ⟨rfl, .inl ⟨rfl, rfl⟩⟩, by simp [Value.ownBlock]⟩, by simp⟩
theorem text_ne {n : Nat} {t : Fm n} (l : List UInt8) : ∀ {w : World} {op s a xs sh : Value}, FI n w op s a xs sh t → l ++ textF n t ≠ [] := by
  cases n with
  | zero => intro w op s a xs sh h; exact h.elim
  | succ n => intro w op s a xs sh _; simp [textF]

theorem cat_eq (a : ByteArray) (l : List UInt8) : a ++ ⟨l.toArray⟩ = ⟨(a.data.toList ++ l).toArray⟩ := by
  have e : (a ++ ⟨l.toArray⟩).data = (a.data.toList ++ l).toArray := by rw [ByteArray.data_append]; simp
  exact congrArg ByteArray.mk e
/-- Our own box stands, and what came in. -/
structure St (w : World) (op s a xs sh : Value) (wr : World) : Prop where
  since : w.Since w.heap.size wr
  lt : w.heap.size < wr.heap.size
  box : wr.heap[w.heap.size]? = some (.cells #[op, s, a, xs, sh] 26 (0, 0))
theorem St.next {w wr w2 : World} {op s a xs sh : Value} (h : St w op s a xs sh wr) (hs : wr.Since wr.heap.size w2) : St w op s a xs sh w2 := ⟨since_step h.since hs, Nat.lt_of_lt_of_le h.lt hs.size, by rw [hs.block _ h.lt]; exact h.box⟩
theorem St.wrote {w wr w2 : World} {op s a xs sh : Value} {B b : Nat} {l : List UInt8} (h : St w op s a xs sh wr) (hB : w.heap.size < B) (hw : Wrote B b l wr w2) : St w op s a xs sh w2 :=
  ⟨h.since.trans (since_mono (below_since hw.below) (by omega)), Nat.lt_of_lt_of_le h.lt hw.below.size, hw.keeps _ _ _ _ h.box (by decide) (by decide)⟩
theorem St.cells {w wr : World} {op s a xs sh : Value} (h : St w op s a xs sh wr) : wr.cell? ⟨w.heap.size, 0, none⟩ = some op ∧ wr.cell? ⟨w.heap.size, 1, none⟩ = some s ∧ wr.cell? ⟨w.heap.size, 2, none⟩ = some a ∧ wr.cell? ⟨w.heap.size, 3, none⟩ = some xs ∧ wr.cell? ⟨w.heap.size, 4, none⟩ = some sh := by
  refine ⟨?_, ?_, ?_, ?_, ?_⟩ <;> (rw [Lib.cell_of_heap h.box]; rfl)

set_option maxRecDepth 100000 in
set_option maxHeartbeats 4000000 in
theorem top (n : Nat) (t : Fm n) (op s a xs sh : Value) (pre : ByteArray) (w : World) (h : FI n w op s a xs sh t) (hok : OkF n t) (hT : Lib.TabIs Tryd.prog w tabName .u64 Lib.pow10Tab) :
    Calls Tryd.prog 3 #[.agg #[op, s, a, xs, sh], .string pre] w (TopPost w) := by
  have HF := hide h
  have HOk := hide hok
  have HTab := hide (Tab.of hT)
  clear h hok hT
  by_cases hbig : 1048576 < pre.size
  · go_enter Tryd.func3, Tryd.ntmps3
    go_wp2_with fail
    go_ret
    exact ⟨rfl, (Below.refl _ w).alloc (Nat.le_refl _) _⟩
  have HSt : Hid (St w op s a xs sh (w.alloc (.cells #[op, s, a, xs, sh] 26))) := ⟨(World.Since.refl _ w).alloc (Nat.le_refl _) _, by simp, blk_alloc_new _ _⟩
  go_enter Tryd.func3, Tryd.ntmps3
  go_wp2_with fail
  refine (budF n t op s a xs sh _ _ (HF.out.since HSt.out.since) (by omega) (by omega)).mono ?_
  rintro e w2 ⟨r, rfl, hr0, hr1, hr2, hS2⟩
  have HSt2 := hide (HSt.out.next hS2)
  have HR := hide hr2
  clear hS2 hr2 HSt
  by_cases hneg : r < 0
  · go_wp2_with fail
    go_ret
    exact ⟨rfl, since_below HSt2.out.since⟩
  have hcost : costF n t + pre.size ≤ 1048576 := by have := HR.out (by omega); omega
  have hp : pre.data.toList.length = pre.size := Array.length_toList
  have HTab2 : Hid (Tab w2.heap.size w2) := (HTab.out.below (since_below HSt2.out.since)).mono (Nat.le_of_lt HSt2.out.lt)
  have HCost := hide hcost
  have HP := hide hp
  clear hcost hp HR
  have hneg' : decide (r < 0) = false := decide_eq_false hneg
  go_wp2_with fail
  have HSt3 := hide (HSt2.out.next ((World.Since.refl w2.heap.size w2).alloc (Nat.le_refl _) (.cells #[.pointer none, .slice none 0 0] 31)))
  refine (str_any pre pre.data.toList rfl w2.heap.size w2.heap.size [] _ (bld_new w2) (by have := HP.out; simp only [List.length_nil]; omega)).mono ?_
  rintro e w4 ⟨⟨r4, rfl⟩, hw4⟩
  have HSt4 := hide (HSt3.out.wrote HSt2.out.lt hw4)
  have HTab4 : Hid (Tab w2.heap.size w4) := HTab2.out.below (((Below.refl w2.heap.size w2).alloc (Nat.le_refl _) _).trans hw4.below)
  have HB4 := hide hw4.bld
  have HLt := hide HSt2.out.lt
  clear hw4 HSt3 HTab2 HSt2 hneg' hneg hr0 hr1
  rw [List.nil_append] at HB4
  generalize w2.heap.size = b1 at *
  obtain ⟨d0, d1, d2, d3, d4⟩ := HSt4.out.cells
  go_wp2_with fail
  refine (buildF n t op s a xs sh false w4 (HF.out.since HSt4.out.since) (by have := HCost.out; omega)).mono ?_
  rintro e w5 ⟨p5, rfl, hp5, hS5⟩
  have HSt5 := hide (HSt4.out.next hS5)
  have HB5 := hide (HB4.out.since hS5)
  have HTab5 : Hid (Tab b1 w5) := HTab4.out.below (Wrote.since HB4.out hS5).below
  have HP5 := hide hp5
  clear hp5 hS5 HSt4 HB4 HTab4 d0 d1 d2 d3 d4
  go_wp2_with fail
  refine (zzWrite n t _ _ w5 b1 b1 pre.data.toList HP5.out HOk.out HB5.out HTab5.out (by have := HCost.out; have := HP.out; omega)).mono ?_
  rintro e w6 ⟨rfl, hw6⟩
  have HSt6 := hide (HSt5.out.wrote HLt.out hw6)
  have HB6 := hide hw6.bld
  have HTab6 : Hid (Tab b1 w6) := HTab5.out.below hw6.below
  clear hw6 HSt5 HB5 HTab5 HP5
  have hal := (World.Since.refl w6.heap.size w6).alloc (Nat.le_refl _) (.cells #[.pointer none, .slice none 0 0] 31)
  have HSt7 := hide (HSt6.out.next hal)
  have HTab7 : Hid (Tab w6.heap.size (w6.alloc (.cells #[.pointer none, .slice none 0 0] 31))) := (HTab6.out.mono HB6.out.2).below (since_below hal)
  have HAl := hide hal
  clear hal
  obtain ⟨d0, d1, d2, d3, d4⟩ := HSt7.out.cells
  go_wp2_with fail
  refine (buildF n t op s a xs sh true _ (HF.out.since HSt7.out.since) (by have := HCost.out; omega)).mono ?_
  rintro e w8 ⟨p8, rfl, hp8, hS8⟩
  have HSt8 := hide (HSt7.out.next hS8)
  have HB8 := hide ((bld_new w6).since hS8)
  have HTab8 : Hid (Tab w6.heap.size w8) := HTab7.out.below (Wrote.since (bld_new w6) hS8).below
  have HP8 := hide hp8
  have HS8 : Hid (w6.Since w6.heap.size w8) := since_step HAl.out hS8
  clear hp8 hS8 HSt7 HTab7 HAl d0 d1 d2 d3 d4
  go_wp2_with fail
  refine (zzWrite n t _ _ w8 w6.heap.size w6.heap.size [] HP8.out HOk.out HB8.out HTab8.out (by have := HCost.out; simp only [List.length_nil]; omega)).mono ?_
  rintro e w9 ⟨rfl, hw9⟩
  have HS9 : Hid (w6.Since w6.heap.size w9) := HS8.out.trans (below_since hw9.below)
  have HB9 := hide hw9.bld
  have HSt9 := hide (HSt8.out.wrote HSt6.out.lt hw9)
  clear hw9 HSt8 HB8 HTab8 HP8 HS8
  rw [List.nil_append] at HB9
  go_wp2_with fail
  refine (string_first b1 b1 _ w6 w9 HB6.out (text_ne _ HF.out) HS9.out).mono ?_
  rintro e w10 ⟨rfl, hb10, hk10⟩
  have HB10 := hide (HB9.out.above (Nat.le_refl _) hb10.size hk10)
  have HE10 : Hid (Below w.heap.size w w10) := (since_below HSt9.out.since).trans (hb10.mono (Nat.le_of_lt HLt.out))
  have HL := hide (Nat.lt_of_lt_of_le HLt.out HB6.out.2)
  clear hb10 hk10 HB9 HSt9 HS9
  go_wp2_with fail
  refine (string_any w6.heap.size w6.heap.size _ w10 HB10.out).mono ?_
  rintro e w11 ⟨rfl, hb11, _⟩
  have HE11 : Hid (Below w.heap.size w w11) := HE10.out.trans (hb11.mono (Nat.le_of_lt HL.out))
  have heq := cat_eq pre (textF n t)
  have hlen : pre.size + (textF n t).length ≤ 1048576 := by have := HCost.out; have := textF_le n t HOk.out; omega
  clear hb11
  go_wp2_with fail
  go_ret
  exact ⟨by simp, HE11.out⟩

end Go.Proofs.Qxb6601988aDoor
