/-
  (*term).write (28).
-/
import Derived.Test.Qxb6601988aDoorMem
import Derived.Deep.CutRange
namespace Go.Proofs.Qxb6601988aDoor
open Go.RowKit Go.Deep

theorem Bld.since {B b : Nat} {l : List UInt8} {w w' : World} (h : Bld B b l w) (hs : w.Since w.heap.size w') : Bld B b l w' := by
  have key : ∀ p, Lib.BuilderAtF 31 5 B b p (Lib.byteCells l) w → Lib.BuilderAtF 31 5 B b p (Lib.byteCells l) w' := by
    rintro p ⟨h0, v, hb, ⟨h1, h2⟩, hne⟩
    refine ⟨h0, v, by rw [hs.block _ (heap_lt hb)]; exact hb, ⟨h1, ?_⟩, hne⟩
    rcases h2 with h2 | ⟨g, cap, cur, fz, a1, a2, a3, a4⟩
    · exact .inl h2
    · exact .inr ⟨g, cap, cur, fz, a1, a2, by rw [hs.block _ (heap_lt a3)]; exact a3, a4⟩
  refine ⟨?_, Nat.le_trans h.2 hs.size⟩
  rcases h.1 with h1 | h1
  · exact .inl (key _ h1)
  · exact .inr (key _ h1)
theorem Wrote.since {B b : Nat} {l : List UInt8} {w w' : World} (h : Bld B b l w) (hs : w.Since w.heap.size w') : Wrote B b l w w' := ⟨h.since hs, ⟨hs.os, hs.tape, hs.output, hs.size, fun k hk => hs.block k (Nat.lt_of_lt_of_le hk h.2)⟩, Keeps.since hs⟩

/-- The table stands, below block B. -/
def Tab (B : Nat) (w : World) : Prop := Lib.TabIs Tryd.prog w tabName .u64 Lib.pow10Tab ∧ ∃ g, Tryd.prog.globalNamed tabName = some g ∧ g < B
theorem Tab.of {w : World} (h : Lib.TabIs Tryd.prog w tabName .u64 Lib.pow10Tab) : Tab w.heap.size w := by
  refine ⟨h, ?_⟩
  unfold Lib.TabIs World.var? at h
  cases hg : Tryd.prog.globalNamed tabName with
  | none => rw [hg] at h; cases h
  | some g =>
    refine ⟨g, rfl, ?_⟩
    rw [hg] at h
    simp only [Option.bind_some] at h
    cases hb : w.heap[g]? with
    | none => rw [hb] at h; cases h
    | some o => exact heap_lt hb
theorem Tab.mono {B B' : Nat} {w : World} (h : Tab B w) (hB : B ≤ B') : Tab B' w := by
  obtain ⟨h1, g, h2, h3⟩ := h
  exact ⟨h1, g, h2, by omega⟩
theorem Tab.below {B : Nat} {w w' : World} (h : Tab B w) (hb : Below B w w') : Tab B w' := by
  obtain ⟨h1, g, hg, hgB⟩ := h
  refine ⟨?_, g, hg, hgB⟩
  unfold Lib.TabIs World.var? at h1 ⊢
  rw [hg] at h1 ⊢
  simp only [Option.bind_some] at h1 ⊢
  rw [hb.block g hgB]
  exact h1

theorem itoa_any (n : Int) (h0 : -9223372036854775808 ≤ n) (h1 : n ≤ 9223372036854775807) (B : Nat) (w : World) (ht : Tab B w) :
    Calls Tryd.prog 26 #[.int .i64 n] w fun e w' => e = .returned (.string ⟨(Lib.itoa n).toArray⟩) ∧ w.Since w.heap.size w' := by
  refine (Tryd.strconv_Itoa n h0 h1 w ht.1).mono ?_
  rintro e w' ⟨rfl, k, os, rfl⟩
  refine ⟨rfl, rfl, rfl, rfl, ?_, fun i hi => ?_⟩
  · show w.heap.size ≤ (w.heap ++ os).size
    simp
  · show (w.heap ++ os)[i]? = w.heap[i]?
    rw [Array.getElem?_append_left hi]
theorem byte_any (v : Int) (c : UInt8) (hv : v = c.toNat) (B b : Nat) (l : List UInt8) (w : World) (h : Bld B b l w) (hlen : l.length ≤ 1073741824) :
    Calls Tryd.prog 27 #[.pointer (some ⟨b, 0, none⟩), .int .u8 v] w fun e w' => e = .returned .nilIface ∧ Wrote B b (l ++ [c]) w w' := by
  subst hv
  exact writeByte_any B b l c w h hlen

theorem bytes_append (a b : ByteArray) : (a ++ b).data.toList = a.data.toList ++ b.data.toList := by
  rw [ByteArray.data_append, Array.toList_append]
theorem str_any (s : ByteArray) (m : List UInt8) (hs : s.data.toList = m) (B b : Nat) (l : List UInt8) (w : World) (h : Bld B b l w) (hlen : l.length + m.length ≤ 1073741824) :
    Calls Tryd.prog 6 #[.pointer (some ⟨b, 0, none⟩), .string s] w fun e w' => (∃ r, e = .returned (.tuple #[.int .i64 r, .nilIface])) ∧ Wrote B b (l ++ m) w w' := by
  have hl : m.length = s.size := by rw [← hs]; exact Array.length_toList
  refine (writeString_any B b l s w h (by omega) (by omega)).mono ?_
  rintro e w' ⟨rfl, hw⟩
  rw [hs] at hw
  exact ⟨⟨_, rfl⟩, hw⟩

def WPost (B b : Nat) (l : List UInt8) (w : World) (e : Ending) (w' : World) : Prop := e = .returned (.tuple #[]) ∧ Wrote B b l w w'

set_option maxRecDepth 100000 in
set_option maxHeartbeats 2000000 in
theorem writeT : ∀ (n : Nat) (t : Tm n) (L : Nat) (p : Value) (w : World) (B b : Nat) (l : List UInt8), BT n L w p t → OkT n t → Bld B b l w → Tab B w → l.length + costT n t ≤ 4194304 →
    Calls Tryd.prog 28 #[p, .pointer (some ⟨b, 0, none⟩)] w (WPost B b (l ++ textT n t) w) := by
  intro n
  induction n with
  | zero => intro t L p w B b l h; exact h.elim
  | succ n ih =>
    intro t L p w B b l h hok hB hTab hlen
    have IH := hide ih
    clear ih
    obtain ⟨g, sp, ar, rfl, hg, hblk, hsym, ad, c, hh, rfl, hrow⟩ := h
    obtain ⟨⟨hv0, hv1⟩, hok⟩ := hok
    have htext : textT (n + 1) t = match (tnode t).sym with
      | none => 36 :: Lib.itoa (tnode t).v
      | some s => s.data.toList ++ [40] ++ catTo (fun i => textT n ((tnode t).kid i) ++ [44]) (tnode t).k ++ [41] := rfl
    have hcost : costT (n + 1) t = 40 + symCost (tnode t).sym + sumTo (fun i => costT n ((tnode t).kid i)) (tnode t).k := rfl
    have c0 : w.cell? ⟨g, 0, none⟩ = some sp := by rw [Lib.cell_of_heap hblk]; rfl
    have c1 : w.cell? ⟨g, 1, none⟩ = some (.int .i64 (tnode t).v) := by rw [Lib.cell_of_heap hblk]; rfl
    have HBlk := hide hblk
    have HRow := hide hrow
    have HOk := hide hok
    have HB := hide hB
    have HTab := hide hTab
    have HCost := hide hcost
    have HLen := hide hlen
    clear hblk hrow hok hB hTab hcost hlen hg
    rcases hsym with ⟨rfl, hsy⟩ | ⟨gs, nm, rfl, _, hs, hsy⟩
    · rw [hsy] at htext
      simp only at htext
      have HText := hide htext
      have HSy := hide hsy
      clear htext hsy
      generalize (tnode t).v = v at *
      go_enter Tryd.func28, Tryd.ntmps28
      go_wp2_with fail
      refine (itoa_any v hv0 hv1 B w HTab.out).mono ?_
      rintro e w2 ⟨rfl, hS2⟩
      have HW := hide (Wrote.since HB.out hS2)
      have hil := Lib.itoa_length_le v hv0 hv1
      clear hS2 c0 c1
      go_wp2_with fail
      have hl0 := HLen.out
      have hc0 := HCost.out
      refine (str_any _ (36 :: Lib.itoa v) (bytes_append _ _) B b l w2 HW.out.bld (by simp only [List.length_cons]; omega)).mono ?_
      rintro e w3 ⟨⟨r, rfl⟩, hw3⟩
      have HW3 : Hid (Wrote B b (l ++ textT (n + 1) t) w w3) := by rw [HText.out]; exact HW.out.trans hw3
      clear hw3 HW hl0 hc0
      go_wp2_with fail
      go_end0
      exact ⟨rfl, HW3.out⟩
    · rw [hsy] at htext
      simp only at htext
      have HText := hide htext
      have hsc : symCost (tnode t).sym = 16 + nm.size := by rw [hsy]; rfl
      have HSc := hide hsc
      clear htext hsy hsc
      have cs : w.cell? ⟨gs, 0, none⟩ = some (.string nm) := by rw [Lib.cell_of_heap hs]; rfl
      have hkids : ∀ j, j ≤ (tnode t).k → (l ++ nm.data.toList ++ [40] ++ catTo (fun i => textT n ((tnode t).kid i) ++ [44]) j).length + 1 ≤ 4194304 := fun j hj => by
        have h1 := cat_le (g := fun i => textT n ((tnode t).kid i) ++ [44]) (c := fun i => costT n ((tnode t).kid i)) j (fun i hi => by have := textT_le n _ (HOk.out i (by omega)); simpa using this)
        have h2 := sum_le (c := fun i => costT n ((tnode t).kid i)) (tnode t).k hj
        have h3 := HLen.out
        have h4 := HCost.out
        have h5 := HSc.out
        have h6 : nm.data.toList.length = nm.size := Array.length_toList
        simp only [List.length_append, List.length_cons, List.length_nil]
        omega
      have hkid1 : ∀ j, j < (tnode t).k → (l ++ nm.data.toList ++ [40] ++ catTo (fun i => textT n ((tnode t).kid i) ++ [44]) j).length + costT n ((tnode t).kid j) ≤ 4194304 := fun j hj => by
        have h1 := cat_le (g := fun i => textT n ((tnode t).kid i) ++ [44]) (c := fun i => costT n ((tnode t).kid i)) j (fun i hi => by have := textT_le n _ (HOk.out i (by omega)); simpa using this)
        have h2 := sum_le (c := fun i => costT n ((tnode t).kid i)) (j := j + 1) (tnode t).k hj
        have h3 := HLen.out
        have h4 := HCost.out
        have h5 := HSc.out
        have h6 : nm.data.toList.length = nm.size := Array.length_toList
        simp only [sumTo] at h2
        simp only [List.length_append, List.length_cons, List.length_nil]
        omega
      have HKids := hide hkids
      have HKid1 := hide hkid1
      have hk0 := HKids.out 0 (Nat.zero_le _)
      have c2 : w.cell? ⟨g, 2, none⟩ = some (.slice ad (tnode t).k c) := by rw [Lib.cell_of_heap HBlk.out]; rfl
      have hnm : nm.size ≤ 4194304 := by
        have h6 : nm.data.toList.length = nm.size := Array.length_toList
        simp only [List.length_append] at hk0
        omega
      have hk : (tnode t).k ≤ 4194304 := by
        have h1 := sum_ge (c := fun i => costT n ((tnode t).kid i)) (m := 40) (fun i => costT_ge n _) (tnode t).k
        have h3 := HLen.out
        have h4 := HCost.out
        omega
      clear hkids hkid1 hs c1
      generalize (tnode t).k = k at *
      go_enter Tryd.func28, Tryd.ntmps28
      go_wp2_with fail
      refine (str_any _ (nm.data.toList ++ [40]) (bytes_append nm ⟨#[40]⟩) B b l w HB.out (by simp only [List.length_append, List.length_cons, List.length_nil, catTo] at hk0 ⊢; omega)).mono ?_
      rintro e w3 ⟨⟨r, rfl⟩, hw3⟩
      have HW3 : Hid (Wrote B b (l ++ nm.data.toList ++ [40] ++ catTo (fun i => textT n ((tnode t).kid i) ++ [44]) 0) w w3) := by refine hide ?_; simpa only [catTo, List.append_nil, List.append_assoc] using hw3
      have d2 : w3.cell? ⟨g, 2, none⟩ = some (.slice ad k c) := by rw [Lib.cell_of_heap (HW3.out.keeps _ _ _ _ HBlk.out (by decide) (by decide))]; rfl
      clear hw3 c0 c2 cs hk0
      go_wp2_with fail
      clear d2
      go_loopw [34, 5] (fun i _ wr => ∃ j : Nat, j ≤ k ∧ i = .int .i64 j ∧ Hid (Wrote B b (l ++ nm.data.toList ++ [40] ++ catTo (fun i => textT n ((tnode t).kid i) ++ [44]) j) w wr)) (fun i _ _ => k - (intOf i).toNat)
      case atStart => exact ⟨0, Nat.zero_le _, rfl, HW3⟩
      case round =>
        clear HW3
        obtain ⟨j, hj, rfl, HW⟩ := hrel
        by_cases hlt : j < k
        · obtain ⟨rfl, hLh, f, hr, hkid⟩ := HRow.out (by omega)
          have q1 : wr.cell? ⟨hh, j, none⟩ = some (f j) := by
            obtain ⟨cs, hb, h1, h2⟩ := hr
            rw [Lib.cell_of_heap (HW.out.keeps _ _ _ _ hb (by decide) (by decide))]
            exact h2 j hlt
          have hT : BT n L wr (f j) ((tnode t).kid j) := BT.keeps (Nat.le_refl _) (HW.out.keeps.from _) n (hkid j hlt)
          have HT := hide hT
          clear hT hkid hr
          generalize f j = p at *
          go_wp2_with fail
          refine (IH.out _ L p wr B b _ HT.out (HOk.out j hlt) HW.out.bld (HTab.out.below HW.out.below) (HKid1.out j hlt)).mono ?_
          rintro e w4 ⟨rfl, hw4⟩
          have HW4 := hide hw4
          clear hw4 q1
          go_wp2_with fail
          refine (byte_any 44 44 (by decide) B b _ w4 HW4.out.bld ?_).mono ?_
          · have h1 := HKid1.out j hlt
            have h2 := textT_le n _ (HOk.out j hlt)
            simp only [List.length_append] at h1 ⊢
            omega
          rintro e w5 ⟨rfl, hw5⟩
          have HW5 : Hid (Wrote B b (l ++ nm.data.toList ++ [40] ++ catTo (fun i => textT n ((tnode t).kid i) ++ [44]) (j + 1)) w w5) := by refine hide ?_; simpa only [catTo, List.append_assoc] using HW.out.trans (HW4.out.trans hw5)
          clear hw5 HW4
          go_wp2_with fail
          go_roundw
          case rel => exact ⟨j + 1, by omega, by go_num, HW5⟩
          case measure => simp [intOf]; omega
        · obtain rfl : j = k := by omega
          go_wp2_with fail
          refine (byte_any 41 41 (by decide) B b _ wr HW.out.bld (by have := HKids.out j (Nat.le_refl _); omega)).mono ?_
          rintro e w5 ⟨rfl, hw5⟩
          have HW5 : Hid (Wrote B b (l ++ textT (n + 1) t) w w5) := by rw [HText.out]; refine hide ?_; simpa only [List.append_assoc] using HW.out.trans hw5
          clear hw5 HW
          go_wp2_with fail
          go_end0
          exact ⟨rfl, HW5.out⟩

end Go.Proofs.Qxb6601988aDoor
