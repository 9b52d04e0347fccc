/-
  ZZMakeSymbol (16), ZZMakeTerm (29), ZZMakeFormula (18), zzBuildTermHB1 (17).
-/
import Derived.Test.Qxb6601988aDoorMem
import Derived.Deep.CutRange
namespace Go.Proofs.Qxb6601988aDoor
open Go.RowKit Go.Deep

theorem info58 : (Tryd.prog.info? 58).map (fun i => (i.zero, i.size, i.bytes)) = some (some (.pointer none), 1, 8) := by kernel_rfl
theorem info37 : (Tryd.prog.info? 37).map (fun i => (i.zero, i.size, i.bytes)) = some (some (.pointer none), 1, 8) := by kernel_rfl

theorem blk_new2 (w : World) (o1 o2 : Obj) : ((w.alloc o1).alloc o2).heap[w.heap.size + 1]? = some o2 := by
  have h := blk_alloc_new (w.alloc o1) o2
  have e : (w.alloc o1).heap.size = w.heap.size + 1 := by simp
  rwa [e] at h
theorem makeSym (nm : ByteArray) (w : World) : Calls Tryd.prog 16 #[.string nm] w fun e w' => e = .returned (.pointer (some ⟨w.heap.size, 0, none⟩)) ∧ w' = w.alloc (.cells #[.string nm, .slice none 0 0, .pointer none] 83) := by
  go_enter Tryd.func16, Tryd.ntmps16
  go_wp2
  go_ret
  exact ⟨rfl, rfl⟩
theorem makeTerm (q ad : Option Addr) (k c : Nat) (x : Int) (w : World) : Calls Tryd.prog 29 #[.pointer q, .int .i64 x, .slice ad k c] w fun e w' => e = .returned (.pointer (some ⟨w.heap.size, 0, none⟩)) ∧ w' = w.alloc (.cells #[.pointer q, .int .i64 x, .slice ad k c] 88) := by
  go_enter Tryd.func29, Tryd.ntmps29
  go_wp2
  go_ret
  exact ⟨rfl, rfl⟩
theorem makeForm (op : Int) (q ad ae : Option Addr) (k c k' c' : Nat) (sh : Bool) (w : World) : Calls Tryd.prog 18 #[.int .i64 op, .pointer q, .slice ad k c, .slice ae k' c', .bool sh] w fun e w' => e = .returned (.pointer (some ⟨w.heap.size, 0, none⟩)) ∧ w' = w.alloc (.cells #[.int .i64 op, .pointer q, .slice ad k c, .slice ae k' c', .bool sh] 79) := by
  go_enter Tryd.func18, Tryd.ntmps18
  go_wp2
  go_ret
  exact ⟨rfl, rfl⟩

def BuiltT (n : Nat) (t : Tm n) (w : World) (e : Ending) (w' : World) : Prop := ∃ p, e = .returned (.pointer p) ∧ BT n w.heap.size w' (.pointer p) t ∧ w.Since w.heap.size w'
/-- The argument's own box. -/
def BoxT (w : World) (s x a : Value) (wr : World) : Prop := w.Since w.heap.size wr ∧ w.heap.size < wr.heap.size ∧ wr.heap[w.heap.size]? = some (.cells #[s, x, a] 53 (0, 0))
theorem BoxT.since {w wr w2 : World} {s x a : Value} (h : BoxT w s x a wr) (hs : wr.Since wr.heap.size w2) : BoxT w s x a w2 := ⟨since_step h.1 hs, Nat.lt_of_lt_of_le h.2.1 hs.size, by rw [hs.block _ h.2.1]; exact h.2.2⟩

theorem BoxT.store {w wr : World} {s x a v : Value} {ho i : Nat} (h : BoxT w s x a wr) (hh : w.heap.size < ho) : BoxT w s x a (wr.setCell ⟨ho, i, none⟩ v) :=
  ⟨h.1.setCell (a := ⟨ho, i, none⟩) (Nat.le_of_lt hh) v, by simpa using h.2.1, by rw [blk_setCell_other _ _ _ _ (show w.heap.size ≠ (⟨ho, i, none⟩ : Addr).block by show w.heap.size ≠ ho; omega)]; exact h.2.2⟩

set_option maxRecDepth 100000 in
set_option maxHeartbeats 2000000 in
theorem buildT : ∀ (n : Nat) (t : Tm n) (s x a : Value) (w : World), TI n w s x a t → costT n t ≤ 1048576 →
    Calls Tryd.prog 17 #[.agg #[s, x, a]] w (BuiltT n t w) := by
  intro n
  induction n with
  | zero => intro t s x a w h; exact h.elim
  | succ n ih =>
    intro t s x a w h hb
    have IH := hide ih
    clear ih
    obtain ⟨hsym, rfl, b0, o0, ⟨ad, c, rfl, hnil, had, hk⟩, hkid⟩ := h
    have hcost : costT (n + 1) t = 40 + symCost (tnode t).sym + sumTo (fun i => costT n ((tnode t).kid i)) (tnode t).k := rfl
    have hkc : ∀ i, i < (tnode t).k → costT n ((tnode t).kid i) ≤ 1048576 := fun i hi => by
      have := sum_at (c := fun i => costT n ((tnode t).kid i)) (tnode t).k hi
      omega
    have hk2 : (tnode t).k ≤ 1048576 := by
      have := sum_ge (c := fun i => costT n ((tnode t).kid i)) (m := 40) (fun i => costT_ge n _) (tnode t).k
      omega
    have HKc := hide hkc
    have HKid := hide hkid
    have HAd := hide had
    have HNil := hide hnil
    obtain ⟨q, rfl⟩ := hsym.ptr
    have HSym := hide hsym
    clear hcost hkid had hnil hsym hkc hb
    have hmk := run_make_row' (P := Tryd.prog) 57 58 (.pointer none) 8 Tryd.underlying57 info58 rfl .i64 .i64 (tnode t).k (by omega) (by omega)
    have hnl := fun (wx : World) (a : Option Addr) (n c n' c' : Nat) => run_neq_slice_nil_any (P := Tryd.prog) wx 23 53 a n c n' c' Tryd.underlying23
    have HOut : Hid (∀ (g : Nat) (sp ar : Value) (wr : World), wr.heap[g]? = some (.cells #[sp, .int .i64 (tnode t).v, ar] 88 (0, 0)) → w.heap.size ≤ g → SymB w.heap.size wr sp (tnode t).sym → PtrRow w.heap.size wr 58 ar (tnode t).k (fun i q => BT n w.heap.size wr q ((tnode t).kid i)) → BT (n + 1) w.heap.size wr (.pointer (some ⟨g, 0, none⟩)) t) :=
      fun g sp ar wr h1 h2 h3 h4 => ⟨g, sp, ar, rfl, h2, h1, h3, h4⟩
    generalize (tnode t).k = k at *
    generalize hx : (tnode t).v = x at *
    clear hx
    go_enter Tryd.func17, Tryd.ntmps17
    go_upto_if 8 with fail
    go_cut [3] from 6 (fun s3 wx => Hid (BoxT w (.pointer q) (.int .i64 x) (.slice ad k c) wx) ∧ Hid (SymB w.heap.size wx s3 (tnode t).sym))
    case first =>
      have hbox : ∀ wx, wx = w.alloc (.cells #[.pointer q, .int .i64 x, .slice ad k c] 53) → BoxT w (.pointer q) (.int .i64 x) (.slice ad k c) wx := fun wx e => by
        subst e
        exact ⟨(World.Since.refl _ w).alloc (Nat.le_refl _) _, by simp, blk_alloc_new _ _⟩
      have HB := hide hbox
      clear hbox
      rcases HSym.out with ⟨hq, hsy⟩ | ⟨sb, so, nm, hq, hc, hsy⟩
      · obtain rfl : q = none := by injection hq
        have HSy := hide hsy
        clear hsy hq
        go_wp2_with fail
        go_meet
        case rel => exact ⟨HB.out _ rfl, .inl ⟨rfl, HSy.out⟩⟩
      · obtain rfl : q = some ⟨sb, so, none⟩ := by injection hq
        have HSy := hide hsy
        have hc' : ∀ o, (w.alloc o).cell? ⟨sb, so, none⟩ = some (.string nm) := fun o => cell_since ((World.Since.refl _ w).alloc (Nat.le_refl _) o) hc
        clear hsy hq
        go_wp2_with fail
        refine (makeSym nm _).mono ?_
        rintro e w2 ⟨rfl, hw⟩
        subst hw
        go_wp2_with fail
        go_meet
        case rel => exact ⟨(HB.out _ rfl).since ((World.Since.refl _ _).alloc (Nat.le_refl _) _), .inr ⟨_, nm, rfl, by simp, blk_new2 _ _ _, HSy.out⟩⟩
    case rest =>
      obtain ⟨hBox, hSy⟩ := hcut
      obtain ⟨q3, rfl⟩ := hSy.out.ptr
      have g0 : wc.cell? ⟨w.heap.size, 0, none⟩ = some (.pointer q) := by rw [Lib.cell_of_heap hBox.out.2.2]; rfl
      have g2 : wc.cell? ⟨w.heap.size, 2, none⟩ = some (.slice ad k c) := by rw [Lib.cell_of_heap hBox.out.2.2]; rfl
      go_upto_if 17 with fail
      go_cut [4] from 15 (fun s4 wx => Hid (BoxT w (.pointer q) (.int .i64 x) (.slice ad k c) wx) ∧ Hid (SymB w.heap.size wx (.pointer q3) (tnode t).sym) ∧ Hid (PtrRow w.heap.size wx 58 s4 k (fun i q => BT n w.heap.size wx q ((tnode t).kid i))))
      case first =>
        cases ad with
        | none =>
          obtain ⟨rfl, rfl⟩ := HNil.out rfl
          go_wp2_with fail
          go_meet
          case rel => exact ⟨hBox, hSy, none, 0, 0, rfl, fun h => absurd h (by omega)⟩
        | some ad =>
          go_wp2_with fail
          clear g0 g2 hmk hnl
          go_loopw [5] (fun i wr => ∃ j : Nat, j ≤ k ∧ i = .int .i64 j ∧ Hid (BoxT w (.pointer q) (.int .i64 x) (.slice (some ad) k c) wr) ∧ Hid (SymB w.heap.size wr (.pointer q3) (tnode t).sym) ∧ Hid (Filling w.heap.size wc.heap.size 58 k j (fun wx i q => BT n (wc.heap.size + 1) wx q ((tnode t).kid i)) wr)) (fun i _ => k - (intOf i).toNat)
          case atStart => exact ⟨0, Nat.zero_le _, rfl, hBox.out.since ((World.Since.refl _ _).alloc (Nat.le_refl _) _), hSy.out.keeps (Nat.le_refl _) ((Keeps.since ((World.Since.refl _ _).alloc (Nat.le_refl _) _)).from _), Filling.start (by have := hBox.out.2.1; omega) _ _ _ _⟩
          case round =>
            have hho := hBox.out.2.1
            clear hBox hSy
            obtain ⟨j, hj, rfl, hBox, hSy, hF⟩ := hrel
            generalize wc.heap.size = ho at *
            have g2 : wr.cell? ⟨w.heap.size, 2, none⟩ = some (.slice (some ad) k c) := by rw [Lib.cell_of_heap hBox.out.2.2]; rfl
            by_cases hlt : j < k
            · obtain ⟨rfl⟩ := HAd.out (by omega)
              obtain ⟨s', x', a', c1, c2, c3, hT⟩ := HKid.out j hlt
              have hS := hBox.out.1
              have q1 : wr.cell? ⟨b0, o0 + j * 3, none⟩ = some s' := cell_since hS c1
              have q2 : wr.cell? ⟨b0, o0 + j * 3 + 1, none⟩ = some x' := cell_since hS c2
              have q3 : wr.cell? ⟨b0, o0 + j * 3 + 2, none⟩ = some a' := cell_since hS c3
              have HT := hide (hT.since hS)
              clear c1 c2 c3 hT hS
              go_wp2_with fail
              refine (IH.out _ s' x' a' wr HT.out (HKc.out j hlt)).mono ?_
              rintro e w2 ⟨p, rfl, hp, hS2⟩
              have hlow : ho < wr.heap.size := by obtain ⟨_, f, hr, _⟩ := hF.out; exact hr.lt
              have HF2 : Hid (Filling w.heap.size ho 58 k j (fun wx i q => BT n (ho + 1) wx q ((tnode t).kid i)) w2) := hF.out.since hS2 (fun i p h => h.keeps (Nat.le_refl _) ((Keeps.since hS2).from _) n)
              have HP : Hid (BT n (ho + 1) w2 (.pointer p) ((tnode t).kid j)) := BT.keeps (by omega) (fun _ _ _ _ _ h _ _ => h) n hp
              have HB2 := hide (hBox.out.since hS2)
              have HSy2 : Hid (SymB w.heap.size w2 (.pointer _) (tnode t).sym) := hSy.out.keeps (Nat.le_refl _) ((Keeps.since hS2).from _)
              obtain ⟨v1, r1⟩ : ∃ v1, w2.cell? ⟨ho, j, none⟩ = some v1 := by obtain ⟨_, f, hr, _⟩ := HF2.out; exact ⟨_, hr.cell hlt⟩
              have r2 : w2.frozen? ⟨ho, j, none⟩ = false := by obtain ⟨_, f, hr, _⟩ := HF2.out; exact hr.frozen j
              clear hS2 hp q1 q2 q3
              go_wp2_with fail
              go_roundw
              case rel =>
                repeat apply Exists.intro
                exact ⟨⟨j + 1, by omega, by go_num, HB2.out.store hho, SymB.store HF2.out (by decide) HSy2.out, HF2.out.step _ HP.out (fun i q h => BT.keeps (Nat.le_refl _) (KeepsFrom.setLow _ (by omega) _) n h)⟩, rfl⟩
              case measure => simp [intOf]; omega
            · obtain rfl : j = k := by omega
              go_wp2_with fail
              go_meet
              case rel => exact ⟨hBox, hSy, _, _, _, rfl, fun _ => ⟨rfl, hF.out.done (fun i p h => BT.keeps (by omega) (fun _ _ _ _ _ h _ _ => h) n h)⟩⟩
      case rest =>
        clear g0 g2 hBox hSy hmk hnl
        obtain ⟨hBox, hSy, hRow⟩ := hcut
        have HRow := hRow
        obtain ⟨ao, co, ho, rfl, _⟩ := hRow
        have g1 : wc.cell? ⟨w.heap.size, 1, none⟩ = some (.int .i64 x) := by rw [Lib.cell_of_heap hBox.out.2.2]; rfl
        go_wp2_with fail
        refine (makeTerm q3 ao _ _ x wc).mono ?_
        rintro e w2 ⟨rfl, hw⟩
        subst hw
        go_wp2_with fail
        go_ret
        have hS2 := (World.Since.refl wc.heap.size wc).alloc (Nat.le_refl _) (.cells #[.pointer q3, .int .i64 x, .slice ao k co] 88)
        exact ⟨_, rfl, HOut.out _ _ _ _ (blk_alloc_new _ _) (Nat.le_of_lt hBox.out.2.1) (hSy.out.keeps (Nat.le_refl _) ((Keeps.since hS2).from _)) (HRow.out.keeps (Nat.le_refl _) ((Keeps.since hS2).from _) (by decide) (by decide) (fun _ _ _ h => BT.keeps (Nat.le_refl _) ((Keeps.since hS2).from _) n h)), since_step hBox.out.1 hS2⟩

end Go.Proofs.Qxb6601988aDoor
