/-
  zzBuildFormHB1 (8).
-/
import Derived.Test.Qxb6601988aDoorBuild
namespace Go.Proofs.Qxb6601988aDoor
open Go.RowKit Go.Deep

def BuiltF (n : Nat) (t : Fm n) (w : World) (e : Ending) (w' : World) : Prop := ∃ p, e = .returned (.pointer p) ∧ BF n w.heap.size w' (.pointer p) t ∧ w.Since w.heap.size w'
def BoxF (w : World) (op s a xs sh : Value) (wr : World) : Prop := w.Since w.heap.size wr ∧ w.heap.size < wr.heap.size ∧ wr.heap[w.heap.size]? = some (.cells #[op, s, a, xs, sh] 26 (0, 0))
theorem BoxF.since {w wr w2 : World} {op s a xs sh : Value} (h : BoxF w op s a xs sh wr) (hs : wr.Since wr.heap.size w2) : BoxF w op s a xs sh w2 := ⟨since_step h.1 hs, Nat.lt_of_lt_of_le h.2.1 hs.size, by rw [hs.block _ h.2.1]; exact h.2.2⟩
theorem BoxF.store {w wr : World} {op s a xs sh v : Value} {ho i : Nat} (h : BoxF w op s a xs sh wr) (hh : w.heap.size < ho) : BoxF w op s a xs sh (wr.setCell ⟨ho, i, none⟩ v) :=
  ⟨h.1.setCell (a := ⟨ho, i, none⟩) (Nat.le_of_lt hh) v, by simpa using h.2.1, by rw [blk_setCell_other _ _ _ _ (show w.heap.size ≠ (⟨ho, i, none⟩ : Addr).block by show w.heap.size ≠ ho; omega)]; exact h.2.2⟩
set_option maxRecDepth 100000 in
set_option maxHeartbeats 4000000 in
theorem buildF : ∀ (n : Nat) (t : Fm n) (op s a xs sh : Value) (fl : Bool) (w : World), FI n w op s a xs sh t → costF n t ≤ 1048576 →
    Calls Tryd.prog 8 #[.agg #[op, s, a, xs, sh], .bool fl] w (BuiltF n t w) := by
  intro n
  induction n with
  | zero => intro t op s a xs sh fl w h; exact h.elim
  | succ n ih =>
    intro t op s a xs sh fl w h hb
    have IH := hide ih
    clear ih
    obtain ⟨rfl, hsym, ⟨bo, rfl⟩, ⟨b1, o1, ⟨ad1, ca, rfl, hnil1, had1, hka⟩, harg⟩, b2, o2, ⟨ad2, cx, rfl, hnil2, had2, hkx⟩, hsub⟩ := h
    have hcost : costF (n + 1) t = 72 + symCost (fnode t).sym + sumTo (fun i => costT n ((fnode t).arg i)) (fnode t).ka + sumTo (fun i => costF n ((fnode t).sub i)) (fnode t).kx := rfl
    have hkc : ∀ i, i < (fnode t).ka → costT n ((fnode t).arg i) ≤ 1048576 := fun i hi => by
      have := sum_at (c := fun i => costT n ((fnode t).arg i)) (fnode t).ka hi
      omega
    have hkd : ∀ i, i < (fnode t).kx → costF n ((fnode t).sub i) ≤ 1048576 := fun i hi => by
      have := sum_at (c := fun i => costF n ((fnode t).sub i)) (fnode t).kx hi
      omega
    have hk2 : (fnode t).ka ≤ 1048576 := by
      have := sum_ge (c := fun i => costT n ((fnode t).arg i)) (m := 40) (fun i => costT_ge n _) (fnode t).ka
      omega
    have hk3 : (fnode t).kx ≤ 1048576 := by
      have := sum_ge (c := fun i => costF n ((fnode t).sub i)) (m := 72) (fun i => costF_ge n _) (fnode t).kx
      omega
    have HKc := hide hkc
    have HKd := hide hkd
    have HArg := hide harg
    have HSub := hide hsub
    have HAd1 := hide had1
    have HAd2 := hide had2
    have HNil1 := hide hnil1
    have HNil2 := hide hnil2
    obtain ⟨q, rfl⟩ := hsym.ptr
    have HSym := hide hsym
    clear hcost harg hsub had1 had2 hnil1 hnil2 hsym hkc hkd hb
    have hmk1 := run_make_row' (P := Tryd.prog) 57 58 (.pointer none) 8 Tryd.underlying57 info58 rfl .i64 .i64 (fnode t).ka (by omega) (by omega)
    have hmk2 := run_make_row' (P := Tryd.prog) 60 37 (.pointer none) 8 Tryd.underlying60 info37 rfl .i64 .i64 (fnode t).kx (by omega) (by omega)
    have hnl1 := fun (wx : World) (a : Option Addr) (n c n' c' : Nat) => run_neq_slice_nil_any (P := Tryd.prog) wx 23 53 a n c n' c' Tryd.underlying23
    have hnl2 := fun (wx : World) (a : Option Addr) (n c n' c' : Nat) => run_neq_slice_nil_any (P := Tryd.prog) wx 24 26 a n c n' c' Tryd.underlying24
    have HOut : Hid (∀ (g : Nat) (sp ar xr : Value) (bo : Bool) (wr : World), wr.heap[g]? = some (.cells #[.int .i64 (fnode t).op, sp, ar, xr, .bool bo] 79 (0, 0)) → w.heap.size ≤ g → SymB w.heap.size wr sp (fnode t).sym → PtrRow w.heap.size wr 58 ar (fnode t).ka (fun i q => BT n w.heap.size wr q ((fnode t).arg i)) → PtrRow w.heap.size wr 37 xr (fnode t).kx (fun i q => BF n w.heap.size wr q ((fnode t).sub i)) → BF (n + 1) w.heap.size wr (.pointer (some ⟨g, 0, none⟩)) t) :=
      fun g sp ar xr bo wr h1 h2 h3 h4 h5 => ⟨g, sp, ar, xr, bo, rfl, h2, h1, h3, h4, h5⟩
    generalize (fnode t).ka = ka at *
    generalize (fnode t).kx = kx at *
    generalize hx : (fnode t).op = op at *
    clear hx
    go_enter Tryd.func8, Tryd.ntmps8
    go_upto_if 12 with fail
    go_cut [5] from 10 (fun s5 wx => Hid (BoxF w (.int .i64 op) (.pointer q) (.slice ad1 ka ca) (.slice ad2 kx cx) (.bool bo) wx) ∧ Hid (SymB w.heap.size wx s5 (fnode t).sym))
    case first =>
      have hbox : ∀ wx, wx = w.alloc (.cells #[.int .i64 op, .pointer q, .slice ad1 ka ca, .slice ad2 kx cx, .bool bo] 26) → BoxF w (.int .i64 op) (.pointer q) (.slice ad1 ka ca) (.slice ad2 kx cx) (.bool bo) wx := fun wx e => by
        subst e
        exact ⟨(World.Since.refl _ w).alloc (Nat.le_refl _) _, by simp, blk_alloc_new _ _⟩
      have HB := hide hbox
      clear hbox
      rcases HSym.out with ⟨hq, hsy⟩ | ⟨sb, so, nm, hq, hc, hsy⟩
      · obtain rfl : q = none := by injection hq
        have HSy := hide hsy
        clear hsy hq
        go_wp2_with fail
        go_meet
        case rel => exact ⟨HB.out _ rfl, .inl ⟨rfl, HSy.out⟩⟩
      · obtain rfl : q = some ⟨sb, so, none⟩ := by injection hq
        have HSy := hide hsy
        have hc' : ∀ o, (w.alloc o).cell? ⟨sb, so, none⟩ = some (.string nm) := fun o => cell_since ((World.Since.refl _ w).alloc (Nat.le_refl _) o) hc
        clear hsy hq
        go_wp2_with fail
        refine (makeSym nm _).mono ?_
        rintro e w2 ⟨rfl, hw⟩
        subst hw
        go_wp2_with fail
        go_meet
        case rel => exact ⟨(HB.out _ rfl).since ((World.Since.refl _ _).alloc (Nat.le_refl _) _), .inr ⟨_, nm, rfl, by simp, blk_new2 _ _ _, HSy.out⟩⟩
    case rest =>
      obtain ⟨hBox, hSy⟩ := hcut
      obtain ⟨q3, rfl⟩ := hSy.out.ptr
      have g2 : wc.cell? ⟨w.heap.size, 2, none⟩ = some (.slice ad1 ka ca) := by rw [Lib.cell_of_heap hBox.out.2.2]; rfl
      go_upto_if 21 with fail
      go_cut [6] from 19 (fun s6 wx => Hid (BoxF w (.int .i64 op) (.pointer q) (.slice ad1 ka ca) (.slice ad2 kx cx) (.bool bo) wx) ∧ Hid (SymB w.heap.size wx (.pointer q3) (fnode t).sym) ∧ Hid (PtrRow w.heap.size wx 58 s6 ka (fun i q => BT n w.heap.size wx q ((fnode t).arg i))))
      case first =>
        cases ad1 with
        | none =>
          obtain ⟨rfl, rfl⟩ := HNil1.out rfl
          go_wp2_with fail
          go_meet
          case rel => exact ⟨hBox, hSy, none, 0, 0, rfl, fun h => absurd h (by omega)⟩
        | some ad =>
          go_wp2_with fail
          clear g2 hmk1 hmk2 hnl1 hnl2
          go_loopw [7] (fun i wr => ∃ j : Nat, j ≤ ka ∧ i = .int .i64 j ∧ Hid (BoxF w (.int .i64 op) (.pointer q) (.slice (some ad) ka ca) (.slice ad2 kx cx) (.bool bo) wr) ∧ Hid (SymB w.heap.size wr (.pointer q3) (fnode t).sym) ∧ Hid (Filling w.heap.size wc.heap.size 58 ka j (fun wx i q => BT n (wc.heap.size + 1) wx q ((fnode t).arg i)) wr)) (fun i _ => ka - (intOf i).toNat)
          case atStart => exact ⟨0, Nat.zero_le _, rfl, hBox.out.since ((World.Since.refl _ _).alloc (Nat.le_refl _) _), hSy.out.keeps (Nat.le_refl _) ((Keeps.since ((World.Since.refl _ _).alloc (Nat.le_refl _) _)).from _), Filling.start (by have := hBox.out.2.1; omega) _ _ _ _⟩
          case round =>
            have hho := hBox.out.2.1
            clear hBox hSy
            obtain ⟨j, hj, rfl, hBox, hSy, hF⟩ := hrel
            generalize wc.heap.size = ho at *
            have g2 : wr.cell? ⟨w.heap.size, 2, none⟩ = some (.slice (some ad) ka ca) := by rw [Lib.cell_of_heap hBox.out.2.2]; rfl
            by_cases hlt : j < ka
            · obtain ⟨rfl⟩ := HAd1.out (by omega)
              obtain ⟨s', x', a', c1, c2, c3, hT⟩ := HArg.out j hlt
              have hS := hBox.out.1
              have q1 : wr.cell? ⟨b1, o1 + j * 3, none⟩ = some s' := cell_since hS c1
              have q2 : wr.cell? ⟨b1, o1 + j * 3 + 1, none⟩ = some x' := cell_since hS c2
              have q3 : wr.cell? ⟨b1, o1 + j * 3 + 2, none⟩ = some a' := cell_since hS c3
              have HT := hide (hT.since hS)
              clear c1 c2 c3 hT hS
              go_wp2_with fail
              refine (buildT n _ s' x' a' wr HT.out (HKc.out j hlt)).mono ?_
              rintro e w2 ⟨p, rfl, hp, hS2⟩
              have hlow : ho < wr.heap.size := by obtain ⟨_, f, hr, _⟩ := hF.out; exact hr.lt
              have HF2 : Hid (Filling w.heap.size ho 58 ka j (fun wx i q => BT n (ho + 1) wx q ((fnode t).arg i)) w2) := hF.out.since hS2 (fun i p h => h.keeps (Nat.le_refl _) ((Keeps.since hS2).from _) n)
              have HP : Hid (BT n (ho + 1) w2 (.pointer p) ((fnode t).arg j)) := BT.keeps (by omega) (fun _ _ _ _ _ h _ _ => h) n hp
              have HB2 := hide (hBox.out.since hS2)
              have HSy2 : Hid (SymB w.heap.size w2 (.pointer _) (fnode t).sym) := hSy.out.keeps (Nat.le_refl _) ((Keeps.since hS2).from _)
              obtain ⟨v1, r1⟩ : ∃ v1, w2.cell? ⟨ho, j, none⟩ = some v1 := by obtain ⟨_, f, hr, _⟩ := HF2.out; exact ⟨_, hr.cell hlt⟩
              have r2 : w2.frozen? ⟨ho, j, none⟩ = false := by obtain ⟨_, f, hr, _⟩ := HF2.out; exact hr.frozen j
              clear hS2 hp q1 q2 q3
              go_wp2_with fail
              go_roundw
              case rel =>
                repeat apply Exists.intro
                exact ⟨⟨j + 1, by omega, by go_num, HB2.out.store hho, SymB.store HF2.out (by decide) HSy2.out, HF2.out.step _ HP.out (fun i q h => BT.keeps (Nat.le_refl _) (KeepsFrom.setLow _ (by omega) _) n h)⟩, rfl⟩
              case measure => simp [intOf]; omega
            · obtain rfl : j = ka := by omega
              go_wp2_with fail
              go_meet
              case rel => exact ⟨hBox, hSy, _, _, _, rfl, fun _ => ⟨rfl, hF.out.done (fun i p h => BT.keeps (by omega) (fun _ _ _ _ _ h _ _ => h) n h)⟩⟩
      case rest =>
        clear g2 hBox hSy hmk1 hnl1
        obtain ⟨hBox, hSy, hRow⟩ := hcut
        have HRow := hRow
        obtain ⟨ao, co, ho1, rfl, _⟩ := hRow
        have g3 : wc.cell? ⟨w.heap.size, 3, none⟩ = some (.slice ad2 kx cx) := by rw [Lib.cell_of_heap hBox.out.2.2]; rfl
        go_upto_if 44 with fail
        go_cut [8] from 42 (fun s8 wx => Hid (BoxF w (.int .i64 op) (.pointer q) (.slice ad1 ka ca) (.slice ad2 kx cx) (.bool bo) wx) ∧ Hid (SymB w.heap.size wx (.pointer q3) (fnode t).sym) ∧ Hid (PtrRow w.heap.size wx 58 (.slice ao ka co) ka (fun i q => BT n w.heap.size wx q ((fnode t).arg i))) ∧ Hid (PtrRow w.heap.size wx 37 s8 kx (fun i q => BF n w.heap.size wx q ((fnode t).sub i))))
        case first =>
          cases ad2 with
          | none =>
            obtain ⟨rfl, rfl⟩ := HNil2.out rfl
            go_wp2_with fail
            go_meet
            case rel => exact ⟨hBox, hSy, HRow, none, 0, 0, rfl, fun h => absurd h (by omega)⟩
          | some ad =>
            go_wp2_with fail
            clear g3 hmk2 hnl2
            go_loopw [9] (fun i wr => ∃ j : Nat, j ≤ kx ∧ i = .int .i64 j ∧ Hid (BoxF w (.int .i64 op) (.pointer q) (.slice ad1 ka ca) (.slice (some ad) kx cx) (.bool bo) wr) ∧ Hid (SymB w.heap.size wr (.pointer q3) (fnode t).sym) ∧ Hid (PtrRow w.heap.size wr 58 (.slice ao ka co) ka (fun i q => BT n w.heap.size wr q ((fnode t).arg i))) ∧ Hid (Filling w.heap.size wc.heap.size 37 kx j (fun wx i q => BF n (wc.heap.size + 1) wx q ((fnode t).sub i)) wr)) (fun i _ => kx - (intOf i).toNat)
            case atStart =>
              have hal := (World.Since.refl wc.heap.size wc).alloc (Nat.le_refl _) (.cells (madeCells #[.pointer none] kx) 37)
              exact ⟨0, Nat.zero_le _, rfl, hBox.out.since hal, hSy.out.keeps (Nat.le_refl _) ((Keeps.since hal).from _), HRow.out.keeps (Nat.le_refl _) ((Keeps.since hal).from _) (by decide) (by decide) (fun _ _ _ h => BT.keeps (Nat.le_refl _) ((Keeps.since hal).from _) n h), Filling.start (by have := hBox.out.2.1; omega) _ _ _ _⟩
            case round =>
              have hho := hBox.out.2.1
              clear hBox hSy HRow
              obtain ⟨j, hj, rfl, hBox, hSy, HRow, hF⟩ := hrel
              generalize wc.heap.size = ho at *
              have g3 : wr.cell? ⟨w.heap.size, 3, none⟩ = some (.slice (some ad) kx cx) := by rw [Lib.cell_of_heap hBox.out.2.2]; rfl
              by_cases hlt : j < kx
              · obtain ⟨rfl⟩ := HAd2.out (by omega)
                obtain ⟨op', s', a', xs', sh', c0, c1, c2, c3, c4, hT⟩ := HSub.out j hlt
                have hS := hBox.out.1
                have q0 : wr.cell? ⟨b2, o2 + j * 5, none⟩ = some op' := cell_since hS c0
                have q1 : wr.cell? ⟨b2, o2 + j * 5 + 1, none⟩ = some s' := cell_since hS c1
                have q2 : wr.cell? ⟨b2, o2 + j * 5 + 2, none⟩ = some a' := cell_since hS c2
                have q3 : wr.cell? ⟨b2, o2 + j * 5 + 3, none⟩ = some xs' := cell_since hS c3
                have q4 : wr.cell? ⟨b2, o2 + j * 5 + 4, none⟩ = some sh' := cell_since hS c4
                have HT := hide (hT.since hS)
                clear c0 c1 c2 c3 c4 hT hS
                go_wp2_with fail
                refine (IH.out _ op' s' a' xs' sh' fl wr HT.out (HKd.out j hlt)).mono ?_
                rintro e w2 ⟨p, rfl, hp, hS2⟩
                have hlow : ho < wr.heap.size := by obtain ⟨_, f, hr, _⟩ := hF.out; exact hr.lt
                have HF2 : Hid (Filling w.heap.size ho 37 kx j (fun wx i q => BF n (ho + 1) wx q ((fnode t).sub i)) w2) := hF.out.since hS2 (fun i p h => h.keeps (Nat.le_refl _) ((Keeps.since hS2).from _) n)
                have HP : Hid (BF n (ho + 1) w2 (.pointer p) ((fnode t).sub j)) := BF.keeps (by omega) (fun _ _ _ _ _ h _ _ => h) n hp
                have HB2 := hide (hBox.out.since hS2)
                have HSy2 : Hid (SymB w.heap.size w2 (.pointer _) (fnode t).sym) := hSy.out.keeps (Nat.le_refl _) ((Keeps.since hS2).from _)
                have HRow2 : Hid (PtrRow w.heap.size w2 58 (.slice ao ka co) ka (fun i q => BT n w.heap.size w2 q ((fnode t).arg i))) := HRow.out.keeps (Nat.le_refl _) ((Keeps.since hS2).from _) (by decide) (by decide) (fun _ _ _ h => BT.keeps (Nat.le_refl _) ((Keeps.since hS2).from _) n h)
                obtain ⟨v1, r1⟩ : ∃ v1, w2.cell? ⟨ho, j, none⟩ = some v1 := by obtain ⟨_, f, hr, _⟩ := HF2.out; exact ⟨_, hr.cell hlt⟩
                have r2 : w2.frozen? ⟨ho, j, none⟩ = false := by obtain ⟨_, f, hr, _⟩ := HF2.out; exact hr.frozen j
                clear hS2 hp q0 q1 q2 q3 q4
                go_wp2_with fail
                go_roundw
                case rel =>
                  exact ⟨j + 1, by omega, by go_num, HB2.out.store hho, SymB.store HF2.out (by decide) HSy2.out, PtrRow.store37 HF2.out HRow2.out, HF2.out.step _ HP.out (fun i q h => BF.keeps (Nat.le_refl _) (KeepsFrom.setLow _ (by omega) _) n h)⟩
                case measure => simp [intOf]; omega
              · obtain rfl : j = kx := by omega
                go_wp2_with fail
                go_meet
                case rel => exact ⟨hBox, hSy, HRow, _, _, _, rfl, fun _ => ⟨rfl, hF.out.done (fun i p h => BF.keeps (by omega) (fun _ _ _ _ _ h _ _ => h) n h)⟩⟩
        case rest =>
          clear g3 hBox hSy HRow hmk2 hnl2
          obtain ⟨hBox, hSy, HRow, hRow2⟩ := hcut
          have HRow2 := hRow2
          obtain ⟨ax, cx', ho2, rfl, _⟩ := hRow2
          have g0 : wc.cell? ⟨w.heap.size, 0, none⟩ = some (.int .i64 op) := by rw [Lib.cell_of_heap hBox.out.2.2]; rfl
          have g4 : wc.cell? ⟨w.heap.size, 4, none⟩ = some (.bool bo) := by rw [Lib.cell_of_heap hBox.out.2.2]; rfl
          go_wp2_with fail
          refine (makeForm op q3 ao ax _ _ _ _ _ wc).mono ?_
          rintro e w2 ⟨rfl, hw⟩
          subst hw
          go_wp2_with fail
          go_ret
          have hS2 := fun b => (World.Since.refl wc.heap.size wc).alloc (Nat.le_refl _) (.cells #[.int .i64 op, .pointer q3, .slice ao ka co, .slice ax kx cx', .bool b] 79)
          exact ⟨_, rfl, HOut.out _ _ _ _ _ _ (blk_alloc_new _ _) (Nat.le_of_lt hBox.out.2.1) (hSy.out.keeps (Nat.le_refl _) ((Keeps.since (hS2 _)).from _)) (HRow.out.keeps (Nat.le_refl _) ((Keeps.since (hS2 _)).from _) (by decide) (by decide) (fun _ _ _ h => BT.keeps (Nat.le_refl _) ((Keeps.since (hS2 _)).from _) n h)) (HRow2.out.keeps (Nat.le_refl _) ((Keeps.since (hS2 _)).from _) (by decide) (by decide) (fun _ _ _ h => BF.keeps (Nat.le_refl _) ((Keeps.since (hS2 _)).from _) n h)), since_step hBox.out.1 (hS2 _)⟩

end Go.Proofs.Qxb6601988aDoor
