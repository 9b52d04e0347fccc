/-
  zzFormBudgetHB1 (5).
-/
import Derived.Test.Qxb6601988aDoorBudget
namespace Go.Proofs.Qxb6601988aDoor
open Go.RowKit

set_option maxRecDepth 100000 in
set_option maxHeartbeats 4000000 in
theorem budF : ∀ (n : Nat) (t : Fm n) (op s a xs sh : Value) (w : World) (b : Int), FI n w op s a xs sh t → 0 ≤ b → b ≤ 1048576 →
    Calls Tryd.prog 5 #[.agg #[op, s, a, xs, sh], .int .i64 b] w (BudPost b (costF n t) w) := by
  intro n
  induction n with
  | zero => intro t op s a xs sh w b h; exact h.elim
  | succ n ih =>
    intro t op s a xs sh w b h hb0 hb1
    have IH := hide ih
    clear ih
    obtain ⟨rfl, hsym, ⟨bo, rfl⟩, ⟨b1, o1, ⟨ad1, ca, rfl, hnil1, had1, hka⟩, harg⟩, b2, o2, ⟨ad2, cx, rfl, hnil2, had2, hkx⟩, hsub⟩ := h
    have hcost : costF (n + 1) t = 72 + symCost (fnode t).sym + sumTo (fun i => costT n ((fnode t).arg i)) (fnode t).ka + sumTo (fun i => costF n ((fnode t).sub i)) (fnode t).kx := rfl
    have HCost := hide hcost
    have HArg := hide harg
    have HSub := hide hsub
    have HAd1 := hide had1
    have HAd2 := hide had2
    clear hcost harg hsub had1 had2 hnil1 hnil2
    generalize (fnode t).ka = ka at *
    generalize (fnode t).kx = kx at *
    rcases hsym with ⟨rfl, hsy⟩ | ⟨sb, so, nm, rfl, hc, hsy⟩
    · have HSy := hide hsy
      clear hsy
      by_cases h40 : b < 72
      · go_enter Tryd.func5, Tryd.ntmps5
        go_wp2
        go_ret
        exact bud_no hb0 ((World.Since.refl _ w).alloc (Nat.le_refl _) _)
      have hd : decide (b - 72 < 0) = false := decide_eq_false (by omega)
      have HU0 : Hid (b - 72 = b - 72 - symCost (fnode t).sym - sumTo (fun i => costT n ((fnode t).arg i)) 0) := by show _ = _; rw [HSy.out]; simp [symCost, sumTo]
      go_enter Tryd.func5, Tryd.ntmps5
      go_wp2
      go_loopw [1, 5] (fun u i wr => ∃ (j : Nat) (v : Int), j ≤ ka ∧ i = .int .i64 j ∧ u = .int .i64 v ∧ 0 ≤ v ∧ v ≤ b ∧ Hid (v = b - 72 - symCost (fnode t).sym - sumTo (fun i => costT n ((fnode t).arg i)) j) ∧ Hid (w.Since w.heap.size wr) ∧ Hid (w.heap.size < wr.heap.size) ∧ Hid (wr.cell? ⟨w.heap.size, 2, none⟩ = some (.slice ad1 ka ca)) ∧ Hid (wr.cell? ⟨w.heap.size, 3, none⟩ = some (.slice ad2 kx cx))) (fun _ i _ => ka - (intOf i).toNat)
      case atStart => exact ⟨0, _, Nat.zero_le _, rfl, rfl, by omega, by omega, HU0, (World.Since.refl _ w).alloc (Nat.le_refl _) _, by show w.heap.size < _; simp, by show _ = _; simp, by show _ = _; simp⟩
      case round =>
        obtain ⟨j, v, hj, rfl, rfl, hv0, hv1, hv, hS, hL, hC, hD⟩ := hrel
        have gC : wr.cell? ⟨w.heap.size, 2, none⟩ = some (.slice ad1 ka ca) := hC.out
        by_cases hlt : j < ka
        · obtain rfl := HAd1.out (by omega)
          obtain ⟨s', x', a', c1, c2, c3, hT⟩ := HArg.out j hlt
          have q1 : wr.cell? ⟨b1, o1 + j * 3, none⟩ = some s' := cell_since hS.out c1
          have q2 : wr.cell? ⟨b1, o1 + j * 3 + 1, none⟩ = some x' := cell_since hS.out c2
          have q3 : wr.cell? ⟨b1, o1 + j * 3 + 2, none⟩ = some a' := cell_since hS.out c3
          have HT := hide (hT.since hS.out)
          clear c1 c2 c3 hT
          go_wp2_with fail
          refine (budT n _ s' x' a' wr v HT.out hv0 (by omega)).mono ?_
          rintro e w2 ⟨r, rfl, hr0, hr1, hr2, hS2⟩
          have HR := hide hr2
          have HS2 := hide (since_step hS.out hS2)
          have HC2 : Hid (w2.cell? ⟨w.heap.size, 2, none⟩ = some (.slice (some ⟨b1, o1, none⟩) ka ca)) := cell_since hS2 gC
          have HD2 : Hid (w2.cell? ⟨w.heap.size, 3, none⟩ = some (.slice ad2 kx cx)) := cell_since hS2 hD.out
          have HL2 : Hid (w.heap.size < w2.heap.size) := Nat.lt_of_lt_of_le hL.out hS2.size
          clear hr2 hS2 q1 q2 q3 gC
          by_cases hneg : r < 0
          · go_wp2_with fail
            go_ret
            exact bud_no hb0 HS2.out
          · go_wp2_with fail
            go_roundw
            case rel => exact ⟨j + 1, r, by omega, by go_num, rfl, by omega, by omega, by show r = _; rw [HR.out (by omega), hv.out]; simp only [sumTo]; omega, HS2, HL2, HC2, HD2⟩
            case measure => simp [intOf]; omega
        · have hv' : Hid (v = b - 72 - symCost (fnode t).sym - sumTo (fun i => costT n ((fnode t).arg i)) ka) := by
            have e : j = ka := by omega
            rw [← e]
            exact hv
          clear hv
          have gD : wr.cell? ⟨w.heap.size, 3, none⟩ = some (.slice ad2 kx cx) := hD.out
          go_wp2_with fail
          clear gC gD
          go_loopw [1, 6] (fun u i wr => ∃ (j : Nat) (v : Int), j ≤ kx ∧ i = .int .i64 j ∧ u = .int .i64 v ∧ 0 ≤ v ∧ v ≤ b ∧ Hid (v = b - 72 - symCost (fnode t).sym - sumTo (fun i => costT n ((fnode t).arg i)) ka - sumTo (fun i => costF n ((fnode t).sub i)) j) ∧ Hid (w.Since w.heap.size wr) ∧ Hid (w.heap.size < wr.heap.size) ∧ Hid (wr.cell? ⟨w.heap.size, 3, none⟩ = some (.slice ad2 kx cx))) (fun _ i _ => kx - (intOf i).toNat)
          case atStart => exact ⟨0, _, Nat.zero_le _, rfl, rfl, hv0, hv1, by show _ = _; rw [hv'.out]; simp [sumTo], hS, hL, hD⟩
          case round =>
            obtain ⟨j, v, hj, rfl, rfl, hv0, hv1, hv, hS, hL, hC⟩ := hrel
            have gC : wr.cell? ⟨w.heap.size, 3, none⟩ = some (.slice ad2 kx cx) := hC.out
            by_cases hlt : j < kx
            · obtain rfl := HAd2.out (by omega)
              obtain ⟨op', s', a', xs', sh', c0, c1, c2, c3, c4, hT⟩ := HSub.out j hlt
              have q0 : wr.cell? ⟨b2, o2 + j * 5, none⟩ = some op' := cell_since hS.out c0
              have q1 : wr.cell? ⟨b2, o2 + j * 5 + 1, none⟩ = some s' := cell_since hS.out c1
              have q2 : wr.cell? ⟨b2, o2 + j * 5 + 2, none⟩ = some a' := cell_since hS.out c2
              have q3 : wr.cell? ⟨b2, o2 + j * 5 + 3, none⟩ = some xs' := cell_since hS.out c3
              have q4 : wr.cell? ⟨b2, o2 + j * 5 + 4, none⟩ = some sh' := cell_since hS.out c4
              have HT := hide (hT.since hS.out)
              clear c0 c1 c2 c3 c4 hT
              go_wp2_with fail
              refine (IH.out _ op' s' a' xs' sh' wr v HT.out hv0 (by omega)).mono ?_
              rintro e w2 ⟨r, rfl, hr0, hr1, hr2, hS2⟩
              have HR := hide hr2
              have HS2 := hide (since_step hS.out hS2)
              have HC2 : Hid (w2.cell? ⟨w.heap.size, 3, none⟩ = some (.slice (some ⟨b2, o2, none⟩) kx cx)) := cell_since hS2 gC
              have HL2 : Hid (w.heap.size < w2.heap.size) := Nat.lt_of_lt_of_le hL.out hS2.size
              clear hr2 hS2 q0 q1 q2 q3 q4 gC
              by_cases hneg : r < 0
              · go_wp2_with fail
                go_ret
                exact bud_no hb0 HS2.out
              · go_wp2_with fail
                go_roundw
                case rel => exact ⟨j + 1, r, by omega, by go_num, rfl, by omega, by omega, by show r = _; rw [HR.out (by omega), hv.out]; simp only [sumTo]; omega, HS2, HL2, HC2⟩
                case measure => simp [intOf]; omega
            · obtain rfl : j = kx := by omega
              go_wp2_with fail
              go_ret
              exact ⟨v, rfl, by omega, by omega, fun _ => by rw [hv.out, HCost.out]; omega, hS.out⟩
    · have HSy := hide hsy
      have hc' : ∀ o, (w.alloc o).cell? ⟨sb, so, none⟩ = some (.string nm) := fun o => cell_since ((World.Since.refl _ w).alloc (Nat.le_refl _) o) hc
      clear hsy
      by_cases hbig : 1048576 < nm.size
      · go_enter Tryd.func5, Tryd.ntmps5
        go_wp2
        go_ret
        exact bud_no hb0 ((World.Since.refl _ w).alloc (Nat.le_refl _) _)
      by_cases h40 : b < 88 + nm.size
      · go_enter Tryd.func5, Tryd.ntmps5
        go_wp2
        go_ret
        exact bud_no hb0 ((World.Since.refl _ w).alloc (Nat.le_refl _) _)
      have hd : decide (b - 72 - (16 + (nm.size : Int)) < 0) = false := decide_eq_false (by omega)
      have hd2 : decide (1048576 < (nm.size : Int)) = false := decide_eq_false (by omega)
      have hd3 : decide (1048576 < nm.size) = false := decide_eq_false (by omega)
      have HU0 : Hid (b - 72 - (16 + (nm.size : Int)) = b - 72 - symCost (fnode t).sym - sumTo (fun i => costT n ((fnode t).arg i)) 0) := by show _ = _; rw [HSy.out]; simp [symCost, sumTo]
      go_enter Tryd.func5, Tryd.ntmps5
      go_wp2
      clear hc'
      go_loopw [1, 5] (fun u i wr => ∃ (j : Nat) (v : Int), j ≤ ka ∧ i = .int .i64 j ∧ u = .int .i64 v ∧ 0 ≤ v ∧ v ≤ b ∧ Hid (v = b - 72 - symCost (fnode t).sym - sumTo (fun i => costT n ((fnode t).arg i)) j) ∧ Hid (w.Since w.heap.size wr) ∧ Hid (w.heap.size < wr.heap.size) ∧ Hid (wr.cell? ⟨w.heap.size, 2, none⟩ = some (.slice ad1 ka ca)) ∧ Hid (wr.cell? ⟨w.heap.size, 3, none⟩ = some (.slice ad2 kx cx))) (fun _ i _ => ka - (intOf i).toNat)
      case atStart => exact ⟨0, _, Nat.zero_le _, rfl, rfl, by omega, by omega, HU0, (World.Since.refl _ w).alloc (Nat.le_refl _) _, by show w.heap.size < _; simp, by show _ = _; simp, by show _ = _; simp⟩
      case round =>
        obtain ⟨j, v, hj, rfl, rfl, hv0, hv1, hv, hS, hL, hC, hD⟩ := hrel
        have gC : wr.cell? ⟨w.heap.size, 2, none⟩ = some (.slice ad1 ka ca) := hC.out
        by_cases hlt : j < ka
        · obtain rfl := HAd1.out (by omega)
          obtain ⟨s', x', a', c1, c2, c3, hT⟩ := HArg.out j hlt
          have q1 : wr.cell? ⟨b1, o1 + j * 3, none⟩ = some s' := cell_since hS.out c1
          have q2 : wr.cell? ⟨b1, o1 + j * 3 + 1, none⟩ = some x' := cell_since hS.out c2
          have q3 : wr.cell? ⟨b1, o1 + j * 3 + 2, none⟩ = some a' := cell_since hS.out c3
          have HT := hide (hT.since hS.out)
          clear c1 c2 c3 hT
          go_wp2_with fail
          refine (budT n _ s' x' a' wr v HT.out hv0 (by omega)).mono ?_
          rintro e w2 ⟨r, rfl, hr0, hr1, hr2, hS2⟩
          have HR := hide hr2
          have HS2 := hide (since_step hS.out hS2)
          have HC2 : Hid (w2.cell? ⟨w.heap.size, 2, none⟩ = some (.slice (some ⟨b1, o1, none⟩) ka ca)) := cell_since hS2 gC
          have HD2 : Hid (w2.cell? ⟨w.heap.size, 3, none⟩ = some (.slice ad2 kx cx)) := cell_since hS2 hD.out
          have HL2 : Hid (w.heap.size < w2.heap.size) := Nat.lt_of_lt_of_le hL.out hS2.size
          clear hr2 hS2 q1 q2 q3 gC
          by_cases hneg : r < 0
          · go_wp2_with fail
            go_ret
            exact bud_no hb0 HS2.out
          · go_wp2_with fail
            go_roundw
            case rel => exact ⟨j + 1, r, by omega, by go_num, rfl, by omega, by omega, by show r = _; rw [HR.out (by omega), hv.out]; simp only [sumTo]; omega, HS2, HL2, HC2, HD2⟩
            case measure => simp [intOf]; omega
        · have hv' : Hid (v = b - 72 - symCost (fnode t).sym - sumTo (fun i => costT n ((fnode t).arg i)) ka) := by
            have e : j = ka := by omega
            rw [← e]
            exact hv
          clear hv
          have gD : wr.cell? ⟨w.heap.size, 3, none⟩ = some (.slice ad2 kx cx) := hD.out
          go_wp2_with fail
          clear gC gD
          go_loopw [1, 6] (fun u i wr => ∃ (j : Nat) (v : Int), j ≤ kx ∧ i = .int .i64 j ∧ u = .int .i64 v ∧ 0 ≤ v ∧ v ≤ b ∧ Hid (v = b - 72 - symCost (fnode t).sym - sumTo (fun i => costT n ((fnode t).arg i)) ka - sumTo (fun i => costF n ((fnode t).sub i)) j) ∧ Hid (w.Since w.heap.size wr) ∧ Hid (w.heap.size < wr.heap.size) ∧ Hid (wr.cell? ⟨w.heap.size, 3, none⟩ = some (.slice ad2 kx cx))) (fun _ i _ => kx - (intOf i).toNat)
          case atStart => exact ⟨0, _, Nat.zero_le _, rfl, rfl, hv0, hv1, by show _ = _; rw [hv'.out]; simp [sumTo], hS, hL, hD⟩
          case round =>
            obtain ⟨j, v, hj, rfl, rfl, hv0, hv1, hv, hS, hL, hC⟩ := hrel
            have gC : wr.cell? ⟨w.heap.size, 3, none⟩ = some (.slice ad2 kx cx) := hC.out
            by_cases hlt : j < kx
            · obtain rfl := HAd2.out (by omega)
              obtain ⟨op', s', a', xs', sh', c0, c1, c2, c3, c4, hT⟩ := HSub.out j hlt
              have q0 : wr.cell? ⟨b2, o2 + j * 5, none⟩ = some op' := cell_since hS.out c0
              have q1 : wr.cell? ⟨b2, o2 + j * 5 + 1, none⟩ = some s' := cell_since hS.out c1
              have q2 : wr.cell? ⟨b2, o2 + j * 5 + 2, none⟩ = some a' := cell_since hS.out c2
              have q3 : wr.cell? ⟨b2, o2 + j * 5 + 3, none⟩ = some xs' := cell_since hS.out c3
              have q4 : wr.cell? ⟨b2, o2 + j * 5 + 4, none⟩ = some sh' := cell_since hS.out c4
              have HT := hide (hT.since hS.out)
              clear c0 c1 c2 c3 c4 hT
              go_wp2_with fail
              refine (IH.out _ op' s' a' xs' sh' wr v HT.out hv0 (by omega)).mono ?_
              rintro e w2 ⟨r, rfl, hr0, hr1, hr2, hS2⟩
              have HR := hide hr2
              have HS2 := hide (since_step hS.out hS2)
              have HC2 : Hid (w2.cell? ⟨w.heap.size, 3, none⟩ = some (.slice (some ⟨b2, o2, none⟩) kx cx)) := cell_since hS2 gC
              have HL2 : Hid (w.heap.size < w2.heap.size) := Nat.lt_of_lt_of_le hL.out hS2.size
              clear hr2 hS2 q0 q1 q2 q3 q4 gC
              by_cases hneg : r < 0
              · go_wp2_with fail
                go_ret
                exact bud_no hb0 HS2.out
              · go_wp2_with fail
                go_roundw
                case rel => exact ⟨j + 1, r, by omega, by go_num, rfl, by omega, by omega, by show r = _; rw [HR.out (by omega), hv.out]; simp only [sumTo]; omega, HS2, HL2, HC2⟩
                case measure => simp [intOf]; omega
            · obtain rfl : j = kx := by omega
              go_wp2_with fail
              go_ret
              exact ⟨v, rfl, by omega, by omega, fun _ => by rw [hv.out, HCost.out]; omega, hS.out⟩

end Go.Proofs.Qxb6601988aDoor
