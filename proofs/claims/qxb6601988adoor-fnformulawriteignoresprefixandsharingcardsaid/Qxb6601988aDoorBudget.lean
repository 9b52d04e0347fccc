/-
  zzTermBudgetHB1 (13), zzFormBudgetHB1 (5): what is left of the budget, or -1.
-/
import Derived.Test.Qxb6601988aDoorMem
namespace Go.Proofs.Qxb6601988aDoor
open Go.RowKit

def BudPost (b : Int) (c : Nat) (w : World) (e : Ending) (w' : World) : Prop := ∃ r : Int, e = .returned (.int .i64 r) ∧ -1 ≤ r ∧ r ≤ b ∧ (0 ≤ r → r = b - c) ∧ w.Since w.heap.size w'
theorem bud_no {b : Int} {c : Nat} {w w' : World} (h : 0 ≤ b) (hs : w.Since w.heap.size w') : BudPost b c w (.returned (.int .i64 (-1))) w' := ⟨-1, rfl, by omega, by omega, fun h => by omega, hs⟩

set_option maxRecDepth 100000 in
set_option maxHeartbeats 2000000 in
theorem budT : ∀ (n : Nat) (t : Tm n) (s x a : Value) (w : World) (b : Int), TI n w s x a t → 0 ≤ b → b ≤ 1048576 →
    Calls Tryd.prog 13 #[.agg #[s, x, a], .int .i64 b] w (BudPost b (costT n t) w) := by
  intro n
  induction n with
  | zero => intro t s x a w b h; exact h.elim
  | succ n ih =>
    intro t s x a w b h hb0 hb1
    have IH := hide ih
    clear ih
    obtain ⟨hsym, rfl, b0, o0, ⟨ad, c, rfl, hnil, had, hk⟩, hkid⟩ := h
    have hcost : costT (n + 1) t = 40 + symCost (tnode t).sym + sumTo (fun i => costT n ((tnode t).kid i)) (tnode t).k := rfl
    have HCost := hide hcost
    have HKid := hide hkid
    have HAd := hide had
    clear hcost hkid had hnil
    generalize (tnode t).k = k at *
    rcases hsym with ⟨rfl, hsy⟩ | ⟨sb, so, nm, rfl, hc, hsy⟩
    · have HSy := hide hsy
      clear hsy
      by_cases h40 : b < 40
      · go_enter Tryd.func13, Tryd.ntmps13
        go_wp2
        go_ret
        exact bud_no hb0 ((World.Since.refl _ w).alloc (Nat.le_refl _) _)
      have hd : decide (b - 40 < 0) = false := decide_eq_false (by omega)
      have HU0 : Hid (b - 40 = b - 40 - symCost (tnode t).sym - sumTo (fun i => costT n ((tnode t).kid i)) 0) := by show _ = _; rw [HSy.out]; simp [symCost, sumTo]
      go_enter Tryd.func13, Tryd.ntmps13
      go_wp2
      go_loopw [1, 5] (fun u i wr => ∃ (j : Nat) (v : Int), j ≤ k ∧ i = .int .i64 j ∧ u = .int .i64 v ∧ 0 ≤ v ∧ v ≤ b ∧ Hid (v = b - 40 - symCost (tnode t).sym - sumTo (fun i => costT n ((tnode t).kid i)) j) ∧ Hid (w.Since w.heap.size wr) ∧ Hid (w.heap.size < wr.heap.size) ∧ Hid (wr.cell? ⟨w.heap.size, 2, none⟩ = some (.slice ad k c))) (fun _ i _ => k - (intOf i).toNat)
      case atStart => exact ⟨0, _, Nat.zero_le _, rfl, rfl, by omega, by omega, HU0, (World.Since.refl _ w).alloc (Nat.le_refl _) _, by show w.heap.size < _; simp, by show _ = _; simp⟩
      case round =>
        obtain ⟨j, v, hj, rfl, rfl, hv0, hv1, hv, hS, hL, hC⟩ := hrel
        have gC : wr.cell? ⟨w.heap.size, 2, none⟩ = some (.slice ad k c) := hC.out
        by_cases hlt : j < k
        · obtain rfl := HAd.out (by omega)
          obtain ⟨s', x', a', c1, c2, c3, hT⟩ := HKid.out j hlt
          have q1 : wr.cell? ⟨b0, o0 + j * 3, none⟩ = some s' := cell_since hS.out c1
          have q2 : wr.cell? ⟨b0, o0 + j * 3 + 1, none⟩ = some x' := cell_since hS.out c2
          have q3 : wr.cell? ⟨b0, o0 + j * 3 + 2, none⟩ = some a' := cell_since hS.out c3
          have HT := hide (hT.since hS.out)
          clear c1 c2 c3 hT
          go_wp2_with fail
          refine (IH.out _ s' x' a' wr v HT.out hv0 (by omega)).mono ?_
          rintro e w2 ⟨r, rfl, hr0, hr1, hr2, hS2⟩
          have HR := hide hr2
          have HS2 := hide (since_step hS.out hS2)
          have HC2 : Hid (w2.cell? ⟨w.heap.size, 2, none⟩ = some (.slice (some ⟨b0, o0, none⟩) k c)) := cell_since hS2 gC
          have HL2 : Hid (w.heap.size < w2.heap.size) := Nat.lt_of_lt_of_le hL.out hS2.size
          clear hr2 hS2 q1 q2 q3 gC
          by_cases hneg : r < 0
          · go_wp2_with fail
            go_ret
            exact bud_no hb0 HS2.out
          · go_wp2_with fail
            go_roundw
            case rel => exact ⟨j + 1, r, by omega, by go_num, rfl, by omega, by omega, by show r = _; rw [HR.out (by omega), hv.out]; simp only [sumTo]; omega, HS2, HL2, HC2⟩
            case measure => simp [intOf]; omega
        · obtain rfl : j = k := by omega
          go_wp2_with fail
          go_ret
          exact ⟨v, rfl, by omega, by omega, fun _ => by rw [hv.out, HCost.out]; omega, hS.out⟩
    · have HSy := hide hsy
      have hc' : ∀ o, (w.alloc o).cell? ⟨sb, so, none⟩ = some (.string nm) := fun o => cell_since ((World.Since.refl _ w).alloc (Nat.le_refl _) o) hc
      clear hsy
      by_cases hbig : 1048576 < nm.size
      · go_enter Tryd.func13, Tryd.ntmps13
        go_wp2
        go_ret
        exact bud_no hb0 ((World.Since.refl _ w).alloc (Nat.le_refl _) _)
      by_cases h40 : b < 56 + nm.size
      · go_enter Tryd.func13, Tryd.ntmps13
        go_wp2
        go_ret
        exact bud_no hb0 ((World.Since.refl _ w).alloc (Nat.le_refl _) _)
      have hd : decide (b - 40 - (16 + (nm.size : Int)) < 0) = false := decide_eq_false (by omega)
      have hd2 : decide (1048576 < (nm.size : Int)) = false := decide_eq_false (by omega)
      have hd3 : decide (1048576 < nm.size) = false := decide_eq_false (by omega)
      have HU0 : Hid (b - 40 - (16 + (nm.size : Int)) = b - 40 - symCost (tnode t).sym - sumTo (fun i => costT n ((tnode t).kid i)) 0) := by show _ = _; rw [HSy.out]; simp [symCost, sumTo]
      go_enter Tryd.func13, Tryd.ntmps13
      go_wp2
      clear hc'
      go_loopw [1, 5] (fun u i wr => ∃ (j : Nat) (v : Int), j ≤ k ∧ i = .int .i64 j ∧ u = .int .i64 v ∧ 0 ≤ v ∧ v ≤ b ∧ Hid (v = b - 40 - symCost (tnode t).sym - sumTo (fun i => costT n ((tnode t).kid i)) j) ∧ Hid (w.Since w.heap.size wr) ∧ Hid (w.heap.size < wr.heap.size) ∧ Hid (wr.cell? ⟨w.heap.size, 2, none⟩ = some (.slice ad k c))) (fun _ i _ => k - (intOf i).toNat)
      case atStart => exact ⟨0, _, Nat.zero_le _, rfl, rfl, by omega, by omega, HU0, (World.Since.refl _ w).alloc (Nat.le_refl _) _, by show w.heap.size < _; simp, by show _ = _; simp⟩
      case round =>
        obtain ⟨j, v, hj, rfl, rfl, hv0, hv1, hv, hS, hL, hC⟩ := hrel
        have gC : wr.cell? ⟨w.heap.size, 2, none⟩ = some (.slice ad k c) := hC.out
        by_cases hlt : j < k
        · obtain rfl := HAd.out (by omega)
          obtain ⟨s', x', a', c1, c2, c3, hT⟩ := HKid.out j hlt
          have q1 : wr.cell? ⟨b0, o0 + j * 3, none⟩ = some s' := cell_since hS.out c1
          have q2 : wr.cell? ⟨b0, o0 + j * 3 + 1, none⟩ = some x' := cell_since hS.out c2
          have q3 : wr.cell? ⟨b0, o0 + j * 3 + 2, none⟩ = some a' := cell_since hS.out c3
          have HT := hide (hT.since hS.out)
          clear c1 c2 c3 hT
          go_wp2_with fail
          refine (IH.out _ s' x' a' wr v HT.out hv0 (by omega)).mono ?_
          rintro e w2 ⟨r, rfl, hr0, hr1, hr2, hS2⟩
          have HR := hide hr2
          have HS2 := hide (since_step hS.out hS2)
          have HC2 : Hid (w2.cell? ⟨w.heap.size, 2, none⟩ = some (.slice (some ⟨b0, o0, none⟩) k c)) := cell_since hS2 gC
          have HL2 : Hid (w.heap.size < w2.heap.size) := Nat.lt_of_lt_of_le hL.out hS2.size
          clear hr2 hS2 q1 q2 q3 gC
          by_cases hneg : r < 0
          · go_wp2_with fail
            go_ret
            exact bud_no hb0 HS2.out
          · go_wp2_with fail
            go_roundw
            case rel => exact ⟨j + 1, r, by omega, by go_num, rfl, by omega, by omega, by show r = _; rw [HR.out (by omega), hv.out]; simp only [sumTo]; omega, HS2, HL2, HC2⟩
            case measure => simp [intOf]; omega
        · obtain rfl : j = k := by omega
          go_wp2_with fail
          go_ret
          exact ⟨v, rfl, by omega, by omega, fun _ => by rw [hv.out, HCost.out]; omega, hS.out⟩

end Go.Proofs.Qxb6601988aDoor
