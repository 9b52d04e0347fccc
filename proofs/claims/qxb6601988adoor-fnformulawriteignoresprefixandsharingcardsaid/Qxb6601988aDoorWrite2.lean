/-
  (*formula).write (15), ZZWriteFormula (7).
-/
import Derived.Test.Qxb6601988aDoorWrite
namespace Go.Proofs.Qxb6601988aDoor
open Go.RowKit Go.Deep

/-- What is written ahead of the arguments. -/
def headF {n : Nat} (l : List UInt8) (t : Fm (n + 1)) : List UInt8 := l ++ Lib.itoa (fnode t).op ++ symText (fnode t).sym ++ [40]
def midF {n : Nat} (l : List UInt8) (t : Fm (n + 1)) (j : Nat) : List UInt8 := headF l t ++ catTo (fun i => textT n ((fnode t).arg i) ++ [44]) j
def lastF {n : Nat} (l : List UInt8) (t : Fm (n + 1)) (j : Nat) : List UInt8 := midF l t (fnode t).ka ++ catTo (fun i => textF n ((fnode t).sub i) ++ [44]) j

theorem symText_le (s : Option ByteArray) : (symText s).length ≤ symCost s := by
  cases s with
  | none => simp [symText]
  | some s =>
    have hl : s.data.toList.length = s.size := Array.length_toList
    simp only [symText, symCost, hl]
    omega
theorem head_le {n : Nat} {l : List UInt8} {t : Fm (n + 1)} (hok : OkF (n + 1) t) (h : l.length + costF (n + 1) t ≤ 4194304) :
    (headF l t).length + sumTo (fun i => costT n ((fnode t).arg i)) (fnode t).ka + sumTo (fun i => costF n ((fnode t).sub i)) (fnode t).kx + 10 ≤ 4194304 ∧ (symText (fnode t).sym).length ≤ 4194304 := by
  have h1 := Lib.itoa_length_le (fnode t).op hok.1.1 hok.1.2
  have h2 := symText_le (fnode t).sym
  simp only [costF] at h
  simp only [headF, List.length_append, List.length_cons, List.length_nil]
  omega
theorem mid_le {n : Nat} {l : List UInt8} {t : Fm (n + 1)} (hok : OkF (n + 1) t) (h : l.length + costF (n + 1) t ≤ 4194304) {j : Nat} (hj : j ≤ (fnode t).ka) :
    (midF l t j).length + sumTo (fun i => costF n ((fnode t).sub i)) (fnode t).kx + 10 ≤ 4194304 ∧ (j < (fnode t).ka → (midF l t j).length + costT n ((fnode t).arg j) ≤ 4194304) := by
  have h1 := (head_le hok h).1
  have h2 := cat_le (g := fun i => textT n ((fnode t).arg i) ++ [44]) (c := fun i => costT n ((fnode t).arg i)) j (fun i hi => by have := textT_le n _ (hok.2.1 i (by omega)); simpa using this)
  have h3 := sum_le (c := fun i => costT n ((fnode t).arg i)) (fnode t).ka hj
  simp only [midF, List.length_append] at h1 ⊢
  refine ⟨by omega, fun hlt => ?_⟩
  have h4 := sum_le (c := fun i => costT n ((fnode t).arg i)) (j := j + 1) (fnode t).ka hlt
  simp only [sumTo] at h4
  omega
theorem last_le {n : Nat} {l : List UInt8} {t : Fm (n + 1)} (hok : OkF (n + 1) t) (h : l.length + costF (n + 1) t ≤ 4194304) {j : Nat} (hj : j ≤ (fnode t).kx) :
    (lastF l t j).length + 10 ≤ 4194304 ∧ (j < (fnode t).kx → (lastF l t j).length + costF n ((fnode t).sub j) ≤ 4194304) := by
  have h1 := (mid_le hok h (Nat.le_refl _)).1
  have h2 := cat_le (g := fun i => textF n ((fnode t).sub i) ++ [44]) (c := fun i => costF n ((fnode t).sub i)) j (fun i hi => by have := textF_le n _ (hok.2.2 i (by omega)); simpa using this)
  have h3 := sum_le (c := fun i => costF n ((fnode t).sub i)) (fnode t).kx hj
  simp only [lastF, List.length_append] at h1 ⊢
  refine ⟨by omega, fun hlt => ?_⟩
  have h4 := sum_le (c := fun i => costF n ((fnode t).sub i)) (j := j + 1) (fnode t).kx hlt
  simp only [sumTo] at h4
  omega
theorem mid_step {n : Nat} (l : List UInt8) (t : Fm (n + 1)) (j : Nat) : midF l t j ++ textT n ((fnode t).arg j) ++ [44] = midF l t (j + 1) := by simp only [midF, catTo, List.append_assoc]
theorem last_step {n : Nat} (l : List UInt8) (t : Fm (n + 1)) (j : Nat) : lastF l t j ++ textF n ((fnode t).sub j) ++ [44] = lastF l t (j + 1) := by simp only [lastF, catTo, List.append_assoc]
theorem last_done {n : Nat} (l : List UInt8) (t : Fm (n + 1)) : lastF l t (fnode t).kx ++ [41] = l ++ textF (n + 1) t := by simp only [lastF, midF, headF, textF, List.append_assoc]

set_option maxRecDepth 100000 in
set_option maxHeartbeats 4000000 in
theorem writeF : ∀ (n : Nat) (t : Fm n) (L : Nat) (p : Value) (w : World) (B b : Nat) (l : List UInt8), BF n L w p t → OkF n t → Bld B b l w → Tab B w → l.length + costF n t ≤ 4194304 →
    Calls Tryd.prog 15 #[p, .pointer (some ⟨b, 0, none⟩)] w (WPost B b (l ++ textF n t) w) := by
  intro n
  induction n with
  | zero => intro t L p w B b l h; exact h.elim
  | succ n ih =>
    intro t L p w B b l h hok hB hTab hlen
    have IH := hide ih
    clear ih
    obtain ⟨g, sp, ar, xr, bo, rfl, hg, hblk, hsym, ⟨ad, c, hh, rfl, hrow⟩, ae, cx, hx, rfl, hrow2⟩ := h
    have HOk := hide hok
    have HLen := hide hlen
    have hhead := head_le hok hlen
    have hka : (fnode t).ka ≤ 4194304 := by
      have h1 := sum_ge (c := fun i => costT n ((fnode t).arg i)) (m := 40) (fun i => costT_ge n _) (fnode t).ka
      omega
    have hkx : (fnode t).kx ≤ 4194304 := by
      have h1 := sum_ge (c := fun i => costF n ((fnode t).sub i)) (m := 72) (fun i => costF_ge n _) (fnode t).kx
      omega
    obtain ⟨⟨hv0, hv1⟩, hoka, hokx⟩ := hok
    have hMid0 := (mid_le (l := l) (t := t) HOk.out HLen.out (j := 0) (Nat.zero_le _)).1
    have HHead := hide hhead
    have HMid : Hid (∀ j, j ≤ (fnode t).ka → _) := fun j hj => mid_le (l := l) (t := t) HOk.out HLen.out (j := j) hj
    have HLast : Hid (∀ j, j ≤ (fnode t).kx → _) := fun j hj => last_le (l := l) (t := t) HOk.out HLen.out (j := j) hj
    have HDone := hide (last_done l t)
    have HStart : Hid (l ++ Lib.itoa (fnode t).op ++ symText (fnode t).sym ++ [40] = midF l t 0) := by refine hide ?_; simp only [midF, headF, catTo, List.append_nil]
    have HTurn : Hid (midF l t (fnode t).ka = lastF l t 0) := by refine hide ?_; simp only [lastF, catTo, List.append_nil]
    have c0 : w.cell? ⟨g, 0, none⟩ = some (.int .i64 (fnode t).op) := by rw [Lib.cell_of_heap hblk]; rfl
    obtain ⟨q, rfl⟩ := hsym.ptr
    have HSym := hide hsym
    have HBlk := hide hblk
    have HRow := hide hrow
    have HRow2 := hide hrow2
    have HOka := hide hoka
    have HOkx := hide hokx
    have HB := hide hB
    have HTab := hide hTab
    clear hblk hrow hrow2 hoka hokx hB hTab hlen hg hsym hhead hMid0
    generalize (fnode t).ka = ka at *
    generalize (fnode t).kx = kx at *
    generalize hop : (fnode t).op = op at *
    clear hop
    have hil := Lib.itoa_length_le op hv0 hv1
    have hll : l.length ≤ 4194304 := by have := HLen.out; omega
    go_enter Tryd.func15, Tryd.ntmps15
    go_wp2_with fail
    refine (itoa_any op hv0 hv1 B w HTab.out).mono ?_
    rintro e w2 ⟨rfl, hS2⟩
    have HW := hide (Wrote.since HB.out hS2)
    clear hS2 c0
    go_wp2_with fail
    refine (str_any _ (Lib.itoa op) (by simp) B b l w2 HW.out.bld (by omega)).mono ?_
    rintro e w3 ⟨⟨r, rfl⟩, hw3⟩
    have HW3 := hide (HW.out.trans hw3)
    have d1 : w3.cell? ⟨g, 1, none⟩ = some (.pointer q) := by rw [Lib.cell_of_heap (HW3.out.keeps _ _ _ _ HBlk.out (by decide) (by decide))]; rfl
    clear hw3 HW
    go_upto_if 19 with fail
    go_cut [] from 15 (fun wx => Hid (Wrote B b (l ++ Lib.itoa op ++ symText (fnode t).sym) w wx))
    case first =>
      rcases HSym.out with ⟨hq, hsy⟩ | ⟨gs, nm, hq, _, hs, hsy⟩
      · obtain rfl : q = none := by injection hq
        have HSy := hide hsy
        clear hsy hq
        go_wp2_with fail
        go_meet
        case rel =>
          refine hide ?_
          rw [HSy.out]
          simpa only [symText, List.append_nil] using HW3.out
      · obtain rfl : q = some ⟨gs, 0, none⟩ := by injection hq
        have HSy := hide hsy
        have cs : w3.cell? ⟨gs, 0, none⟩ = some (.string nm) := by rw [Lib.cell_of_heap (HW3.out.keeps _ _ _ _ hs (by decide) (by decide))]; rfl
        have hnm : nm.data.toList.length ≤ 4194304 := by have := HHead.out.2; rw [hsy] at this; exact this
        clear hsy hq hs
        go_wp2_with fail
        refine (str_any nm nm.data.toList rfl B b _ w3 HW3.out.bld (by simp only [List.length_append]; omega)).mono ?_
        rintro e w4 ⟨⟨r, rfl⟩, hw4⟩
        have HW4 := hide (HW3.out.trans hw4)
        clear hw4 HW3
        go_wp2_with fail
        go_meet
        case rel =>
          refine hide ?_
          rw [HSy.out]
          exact HW4.out
    case rest =>
      clear HW3 d1
      have HW := hcut
      have hm0 := (HMid.out 0 (Nat.zero_le _)).1
      rw [← HStart.out] at hm0
      go_wp2_with fail
      refine (byte_any 40 40 (by decide) B b _ wc HW.out.bld (by simp only [List.length_append] at hm0 ⊢; omega)).mono ?_
      rintro e w4 ⟨rfl, hw4⟩
      have HW4 : Hid (Wrote B b (midF l t 0) w w4) := by
        refine hide ?_
        rw [← HStart.out]
        exact HW.out.trans hw4
      have d2 : w4.cell? ⟨g, 2, none⟩ = some (.slice ad ka c) := by rw [Lib.cell_of_heap (HW4.out.keeps _ _ _ _ HBlk.out (by decide) (by decide))]; rfl
      clear hw4 HW hcut hm0
      go_wp2_with fail
      clear d2
      go_loopw [36, 5] (fun i _ wr => ∃ j : Nat, j ≤ ka ∧ i = .int .i64 j ∧ Hid (Wrote B b (midF l t j) w wr)) (fun i _ _ => ka - (intOf i).toNat)
      case atStart => exact ⟨0, Nat.zero_le _, rfl, HW4⟩
      case round =>
        clear HW4
        obtain ⟨j, hj, rfl, HW⟩ := hrel
        by_cases hlt : j < ka
        · obtain ⟨rfl, hLh, f, hr, hkid⟩ := HRow.out (by omega)
          have q1 : wr.cell? ⟨hh, j, none⟩ = some (f j) := by
            obtain ⟨cs, hb, h1, h2⟩ := hr
            rw [Lib.cell_of_heap (HW.out.keeps _ _ _ _ hb (by decide) (by decide))]
            exact h2 j hlt
          have HT : Hid (BT n L wr (f j) ((fnode t).arg j)) := BT.keeps (Nat.le_refl _) (HW.out.keeps.from _) n (hkid j hlt)
          clear hkid hr
          generalize f j = p at *
          go_wp2_with fail
          refine (writeT n _ L p wr B b _ HT.out (HOka.out j hlt) HW.out.bld (HTab.out.below HW.out.below) ((HMid.out j hj).2 hlt)).mono ?_
          rintro e w4 ⟨rfl, hw4⟩
          have HW4 := hide hw4
          clear hw4 q1
          go_wp2_with fail
          refine (byte_any 44 44 (by decide) B b _ w4 HW4.out.bld ?_).mono ?_
          · have h1 := (HMid.out j hj).2 hlt
            have h2 := textT_le n _ (HOka.out j hlt)
            simp only [List.length_append] at h1 ⊢
            omega
          rintro e w5 ⟨rfl, hw5⟩
          have HW5 : Hid (Wrote B b (midF l t (j + 1)) w w5) := by
            refine hide ?_
            rw [← mid_step]
            exact HW.out.trans (HW4.out.trans hw5)
          clear hw5 HW4
          go_wp2_with fail
          go_roundw
          case rel => exact ⟨j + 1, by omega, by go_num, HW5⟩
          case measure => simp [intOf]; omega
        · have HW6 : Hid (Wrote B b (lastF l t 0) w wr) := by
            refine hide ?_
            rw [← HTurn.out]
            have e : j = ka := by omega
            rw [← e]
            exact HW.out
          have d3 : wr.cell? ⟨g, 3, none⟩ = some (.slice ae kx cx) := by rw [Lib.cell_of_heap (HW6.out.keeps _ _ _ _ HBlk.out (by decide) (by decide))]; rfl
          clear HW
          go_wp2_with fail
          clear d3
          go_loopw [51, 7] (fun i _ wr => ∃ j : Nat, j ≤ kx ∧ i = .int .i64 j ∧ Hid (Wrote B b (lastF l t j) w wr)) (fun i _ _ => kx - (intOf i).toNat)
          case atStart => exact ⟨0, Nat.zero_le _, rfl, HW6⟩
          case round =>
            clear HW6 hlt hj
            obtain ⟨j, hj, rfl, HW⟩ := hrel
            by_cases hlt : j < kx
            · obtain ⟨rfl, hLh, f, hr, hkid⟩ := HRow2.out (by omega)
              have q1 : wr.cell? ⟨hx, j, none⟩ = some (f j) := by
                obtain ⟨cs, hb, h1, h2⟩ := hr
                rw [Lib.cell_of_heap (HW.out.keeps _ _ _ _ hb (by decide) (by decide))]
                exact h2 j hlt
              have HT : Hid (BF n L wr (f j) ((fnode t).sub j)) := BF.keeps (Nat.le_refl _) (HW.out.keeps.from _) n (hkid j hlt)
              clear hkid hr
              generalize f j = p at *
              go_wp2_with fail
              refine (IH.out _ L p wr B b _ HT.out (HOkx.out j hlt) HW.out.bld (HTab.out.below HW.out.below) ((HLast.out j hj).2 hlt)).mono ?_
              rintro e w4 ⟨rfl, hw4⟩
              have HW4 := hide hw4
              clear hw4 q1
              go_wp2_with fail
              refine (byte_any 44 44 (by decide) B b _ w4 HW4.out.bld ?_).mono ?_
              · have h1 := (HLast.out j hj).2 hlt
                have h2 := textF_le n _ (HOkx.out j hlt)
                simp only [List.length_append] at h1 ⊢
                omega
              rintro e w5 ⟨rfl, hw5⟩
              have HW5 : Hid (Wrote B b (lastF l t (j + 1)) w w5) := by
                refine hide ?_
                rw [← last_step]
                exact HW.out.trans (HW4.out.trans hw5)
              clear hw5 HW4
              go_wp2_with fail
              go_roundw
              case rel => exact ⟨j + 1, by omega, by go_num, HW5⟩
              case measure => simp [intOf]; omega
            · have HW6 : Hid (Wrote B b (lastF l t kx) w wr) := by
                refine hide ?_
                have e : j = kx := by omega
                rw [← e]
                exact HW.out
              clear HW
              go_wp2_with fail
              refine (byte_any 41 41 (by decide) B b _ wr HW6.out.bld (by have := (HLast.out kx (Nat.le_refl _)).1; omega)).mono ?_
              rintro e w5 ⟨rfl, hw5⟩
              have HW7 : Hid (Wrote B b (l ++ textF (n + 1) t) w w5) := by
                refine hide ?_
                rw [← HDone.out]
                exact HW6.out.trans hw5
              clear hw5 HW6
              go_wp2_with fail
              go_end0
              exact ⟨rfl, HW7.out⟩

theorem zzWrite (n : Nat) (t : Fm n) (L : Nat) (p : Value) (w : World) (B b : Nat) (l : List UInt8) (h : BF n L w p t) (hok : OkF n t) (hB : Bld B b l w) (hT : Tab B w) (hlen : l.length + costF n t ≤ 4194304) :
    Calls Tryd.prog 7 #[p, .pointer (some ⟨b, 0, none⟩)] w (WPost B b (l ++ textF n t) w) := by
  have H := hide (writeF n t L p w B b l h hok hB hT hlen)
  clear h hok hB hT hlen
  go_enter Tryd.func7, Tryd.ntmps7
  go_wp2_with fail
  refine H.out.mono ?_
  rintro e w' ⟨rfl, hw⟩
  have HW := hide hw
  clear hw H
  go_wp2_with fail
  go_end0
  exact ⟨rfl, HW.out⟩

end Go.Proofs.Qxb6601988aDoor
