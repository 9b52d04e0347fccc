/-
  isTime (21).
-/
import Derived.Test.Qxb6601717aMatch
namespace Go.Proofs.Qxb6601717a
open Go.RowKit

/-- What both recognisers come to: the answer says whether the bytes spell a time. -/
def IPost (f : Nat → Int) (n : Nat) (w : World) (e : Ending) (w' : World) : Prop :=
  ∃ r : Bool, e = .returned (.bool r) ∧ (r = true ↔ P.T f n) ∧ ∃ q, w' = w.drewN q

def shape : ByteArray := ⟨#[100, 100, 100, 100, 45, 100, 100, 45, 100, 100, 84, 100, 100, 58, 100, 100, 58, 100, 100]⟩
def zshape : ByteArray := ⟨#[100, 100, 58, 100, 100]⟩

theorem shape_is : ∀ i : Fin 19, (shape[i.val]'(by have := i.isLt; exact this)).toNat = if i.val = 4 ∨ i.val = 7 then 45 else if i.val = 10 then 84 else if i.val = 13 ∨ i.val = 16 then 58 else 100 := by decide
theorem head_iff (f : Nat → Int) : (∀ i (h : i < shape.size), P.okAt (f i) (shape[i].toNat : Int) = true) ↔ ∀ i, i < 19 → P.headAt i (f i) = true := by
  have key : ∀ i (h : i < 19), P.okAt (f i) ((shape[i]'h).toNat : Int) = P.headAt i (f i) := by
    intro i h
    have e := shape_is ⟨i, h⟩
    simp only at e
    rw [e]
    unfold P.okAt P.headAt
    by_cases a : i = 4 ∨ i = 7
    · simp [a]
    by_cases b : i = 10
    · simp [b]
    by_cases c : i = 13 ∨ i = 16
    · simp [a, b, c]
    simp [a, b, c]
  exact ⟨fun H i h => (key i h).symm.trans (H i h), fun H i h => (key i h).trans (H i h)⟩
theorem zone_iff (f : Nat → Int) : (∀ i (h : i < zshape.size), P.okAt (f i) (zshape[i].toNat : Int) = true) ↔ P.dig (f 0) = true ∧ P.dig (f 1) = true ∧ f 2 = 58 ∧ P.dig (f 3) = true ∧ P.dig (f 4) = true := by
  constructor
  · intro H
    refine ⟨H 0 (by decide), H 1 (by decide), ?_, H 3 (by decide), H 4 (by decide)⟩
    have := H 2 (by decide)
    exact of_decide_eq_true this
  · rintro ⟨a, b, c, d, e⟩ i h
    have h5 : i < 5 := h
    match i, h5 with
    | 0, _ => exact a
    | 1, _ => exact b
    | 2, _ => exact decide_eq_true c
    | 3, _ => exact d
    | 4, _ => exact e

theorem isTime_short (g n : Nat) (f : Nat → Int) (w : World) (hn : n < 19) :
    Calls Try.prog 21 #[.slice (some ⟨g, 0, none⟩) n n] w (IPost f n w) := by
  go_enter Try.func21, Try.ntmps21
  go_wp2
  go_ret
  exact ⟨false, rfl, ⟨fun h => (Bool.false_ne_true h).elim, fun ⟨_, m, z, h, _⟩ => by omega⟩, 0, rfl⟩

theorem isTime_nil (f : Nat → Int) (w : World) :
    Calls Try.prog 21 #[.slice none 0 0] w (IPost f 0 w) := by
  go_enter Try.func21, Try.ntmps21
  go_wp2
  go_ret
  exact ⟨false, rfl, ⟨fun h => (Bool.false_ne_true h).elim, fun ⟨_, m, z, h, _⟩ => by omega⟩, 0, rfl⟩

theorem T_head {f : Nat → Int} {n : Nat} (h : P.T f n) : ∀ i (h : i < shape.size), P.okAt (f i) (shape[i].toNat : Int) = true := (head_iff f).2 h.1

theorem ip_no {f : Nat → Int} {n q : Nat} {w w1 : World} (h : ¬ P.T f n) (hq : w1 = w.drewN q) : IPost f n w (.returned (.bool false)) w1 :=
  ⟨false, rfl, ⟨fun e => (Bool.false_ne_true e).elim, fun e => (h e).elim⟩, q, hq⟩
theorem ip_yes {f : Nat → Int} {n q : Nat} {w w1 : World} (h : P.T f n) (hq : w1 = w.drewN q) : IPost f n w (.returned (.bool true)) w1 :=
  ⟨true, rfl, ⟨fun _ => h, fun _ => rfl⟩, q, hq⟩
theorem ip_six {f : Nat → Int} {n p q q2 : Nat} {w w1 w2 : World} {r : Bool} (hT : P.T f n ↔ P.ZT f n p) (h6 : n - p = 6) (hf : f p = 43 ∨ f p = 45)
    (hr : r = true ↔ ∀ i (h : i < zshape.size), P.okAt (f (p + 1 + i)) (zshape[i].toNat : Int) = true) (hq : w1 = w.drewN q) (hq2 : w2 = w1.drewN q2) : IPost f n w (.returned (.bool r)) w2 := by
  refine ⟨r, rfl, ?_, q + q2, by rw [hq2, hq, World.drewN_drewN]⟩
  rw [hr, hT, P.zt_six h6 hf]
  exact zone_iff (fun i => f (p + 1 + i))

set_option maxHeartbeats 2000000 in
theorem isTime_long (g n : Nat) (f : Nat → Int) (w : World) (hn : 19 ≤ n) (hn2 : n ≤ 1048576)
    (hc : ∀ i, i < n → w.cell? ⟨g, i, none⟩ = some (.int .u8 (f i))) :
    Calls Try.prog 21 #[.slice (some ⟨g, 0, none⟩) n n] w (IPost f n w) := by
  have HC := hide hc
  clear hc
  go_enter Try.func21, Try.ntmps21
  go_wp2_with fail
  refine (matches_any g 0 19 n f shape w rfl (by omega) (fun i hi => by rw [Nat.zero_add]; exact HC.out i (by omega))).mono ?_
  rintro e w1 ⟨r, rfl, hr, q, hq⟩
  have HC1 : Hid (∀ i, i < n → w1.cell? ⟨g, i, none⟩ = some (.int .u8 (f i))) := fun i hi => by rw [hq]; exact HC.out i hi
  have HQ := hide hq
  have HR := hide hr
  clear hq hr
  cases r with
  | false =>
    go_wp2
    go_ret
    exact ip_no (fun h => Bool.false_ne_true (HR.out.2 (T_head h))) HQ.out
  | true =>
    have HH : Hid (∀ i, i < 19 → P.headAt i (f i) = true) := (head_iff f).1 (HR.out.1 rfl)
    by_cases h19 : n = 19
    · subst h19
      go_wp2_with fail
      go_ret
      exact ip_no (fun h => by have := P.T_long h; omega) HQ.out
    by_cases hdot : f 19 = 46
    · have HD := hide hdot
      have g0 : w1.cell? ⟨g, 19, none⟩ = some (.int .u8 46) := by rw [← hdot]; exact HC1.out 19 (by omega)
      clear hdot
      go_wp2_with fail
      go_loop [3] (fun i => ∃ k : Nat, 1 ≤ k ∧ k ≤ n - 19 ∧ i = .int .i64 k ∧ Hid (∀ j, 1 ≤ j → j < k → P.dig (f (19 + j)) = true)) (fun i => n - (intOf i).toNat)
      case atStart => exact ⟨1, by omega, by omega, rfl, fun j _ _ => by omega⟩
      case round =>
        obtain ⟨k, hk1, hk2, rfl, hall⟩ := hrel
        clear g0
        by_cases hlt : k < n - 19
        · have g1 : w1.cell? ⟨g, 19 + k, none⟩ = some (.int .u8 (f (19 + k))) := HC1.out (19 + k) (by omega)
          cases hd : P.dig (f (19 + k)) with
          | true =>
            have HD2 := hide hd
            go_wp2_with (go_at_call 23; refine (isDigit_any _ _).mono ?_; rintro e w' ⟨rfl, rfl⟩)
            go_round
            case rel =>
              refine ⟨k + 1, by omega, by omega, by go_num, fun j h1 h2 => ?_⟩
              by_cases e : j = k
              · subst e; exact HD2.out
              · exact hall.out j h1 (by omega)
            case measure => simp [intOf]; omega
          | false =>
            have HT := hide (P.T_frac (n := n) HH.out HD.out hk1 hk2 hall.out (.inr hd))
            by_cases h10 : 2 ≤ k ∧ k ≤ 10
            · obtain ⟨ha, hb⟩ := h10
              have HT2 : Hid (P.T f n ↔ P.ZT f n (19 + k)) := ⟨fun h => (HT.out.1 h).2, fun h => HT.out.2 ⟨⟨ha, hb⟩, h⟩⟩
              have hk1' : ((k : Int) == 1) = false := by simp; omega
              by_cases hL1 : n - 19 - k ≤ 1 ∧ 1 ≤ n - 19 - k
              · obtain ⟨hLa, hLb⟩ := hL1
                by_cases hZ : f (19 + k) = 90
                · have HZ := hide hZ
                  have hz : (f (19 + k) == 90) = true := by simpa using hZ
                  clear hZ
                  go_wp2_with (go_at_call 23; refine (isDigit_any _ _).mono ?_; rintro e w' ⟨rfl, hw⟩; subst hw)
                  all_goals (go_ret; exact ip_yes (HT2.out.2 (P.zt_Z (by omega) HZ.out)) HQ.out)
                · have HZ := hide hZ
                  have hz : (f (19 + k) == 90) = false := by simpa using hZ
                  clear hZ
                  go_wp2_with (go_at_call 23; refine (isDigit_any _ _).mono ?_; rintro e w' ⟨rfl, hw⟩; subst hw)
                  all_goals (go_ret; exact ip_no (fun h => P.zt_noZ (by omega) HZ.out (HT2.out.1 h)) HQ.out)
              by_cases hL6 : n - 19 - k ≤ 6 ∧ 6 ≤ n - 19 - k
              · obtain ⟨hLa, hLb⟩ := hL6
                clear hL1
                by_cases hP : f (19 + k) = 43
                · have HP := hide hP
                  have hz : (f (19 + k) == 43) = true := by simpa using hP
                  clear hP
                  go_wp2_with (go_at_call 23; refine (isDigit_any _ _).mono ?_; rintro e w' ⟨rfl, hw⟩; subst hw)
                  all_goals
                    refine (matches_any g (19 + k + 1) (n - 19 - k - 1) (n - 19 - k - 1) (fun i => f (19 + k + 1 + i)) zshape _ (by show 5 = _; omega) (by omega) (fun i hi => HC1.out _ (by omega))).mono ?_
                    rintro e w2 ⟨r, rfl, hr, q2, hq2⟩
                    have HR2 := hide hr
                    have HQ2 := hide hq2
                    clear hr hq2
                    go_wp2
                    go_ret
                    exact ip_six HT2.out (by omega) (.inl HP.out) HR2.out HQ.out HQ2.out
                by_cases hM : f (19 + k) = 45
                · have HP := hide hM
                  have hz : (f (19 + k) == 45) = true := by simpa using hM
                  have hz0 : (f (19 + k) == 43) = false := by simpa using hP
                  clear hP hM
                  go_wp2_with (go_at_call 23; refine (isDigit_any _ _).mono ?_; rintro e w' ⟨rfl, hw⟩; subst hw)
                  all_goals
                    refine (matches_any g (19 + k + 1) (n - 19 - k - 1) (n - 19 - k - 1) (fun i => f (19 + k + 1 + i)) zshape _ (by show 5 = _; omega) (by omega) (fun i hi => HC1.out _ (by omega))).mono ?_
                    rintro e w2 ⟨r, rfl, hr, q2, hq2⟩
                    have HR2 := hide hr
                    have HQ2 := hide hq2
                    clear hr hq2
                    go_wp2
                    go_ret
                    exact ip_six HT2.out (by omega) (.inr HP.out) HR2.out HQ.out HQ2.out
                have HP := hide hP
                have HM := hide hM
                have hz : (f (19 + k) == 45) = false := by simpa using hM
                have hz0 : (f (19 + k) == 43) = false := by simpa using hP
                clear hP hM
                go_wp2_with (go_at_call 23; refine (isDigit_any _ _).mono ?_; rintro e w' ⟨rfl, hw⟩; subst hw)
                all_goals (go_ret; exact ip_no (fun h => P.zt_no6 (by omega) HP.out HM.out (HT2.out.1 h)) HQ.out)
              have HL1 := hide hL1
              have HL6 := hide hL6
              have hx1 : ((n - 19 - k : Nat) : Int) ≠ 1 := by omega
              have hx6 : ((n - 19 - k : Nat) : Int) ≠ 6 := by omega
              clear hL1 hL6
              go_wp2_with (go_at_call 23; refine (isDigit_any _ _).mono ?_; rintro e w' ⟨rfl, hw⟩; subst hw)
              all_goals (go_ret; exact ip_no (fun h => P.zt_else (by have := HL1.out; omega) (by have := HL6.out; omega) (HT2.out.1 h)) HQ.out)
            · go_wp2_with (go_at_call 23; refine (isDigit_any _ _).mono ?_; rintro e w' ⟨rfl, rfl⟩)
              all_goals (go_ret; exact ip_no (fun h => h10 (HT.out.1 h).1) HQ.out)
        · have HT := hide (P.T_frac (n := n) HH.out HD.out hk1 hk2 hall.out (.inl (by omega)))
          go_wp2_with fail
          all_goals (go_ret; exact ip_no (fun h => P.zt_else (by omega) (by omega) (HT.out.1 h).2) HQ.out)
    · have HT := hide (P.T_plain (n := n) HH.out hdot)
      have g0 : w1.cell? ⟨g, 19, none⟩ = some (.int .u8 (f 19)) := HC1.out 19 (by omega)
      have hd' : (f 19 == 46) = false := by simpa using hdot
      clear hdot
      by_cases hL1 : n - 19 ≤ 1 ∧ 1 ≤ n - 19
      · obtain ⟨hLa, hLb⟩ := hL1
        by_cases hZ : f (19) = 90
        · have HZ := hide hZ
          have hz : (f (19) == 90) = true := by simpa using hZ
          clear hZ
          go_wp2_with fail
          all_goals (go_ret; exact ip_yes (HT.out.2 (P.zt_Z (by omega) HZ.out)) HQ.out)
        · have HZ := hide hZ
          have hz : (f (19) == 90) = false := by simpa using hZ
          clear hZ
          go_wp2_with fail
          all_goals (go_ret; exact ip_no (fun h => P.zt_noZ (by omega) HZ.out (HT.out.1 h)) HQ.out)
      by_cases hL6 : n - 19 ≤ 6 ∧ 6 ≤ n - 19
      · obtain ⟨hLa, hLb⟩ := hL6
        clear hL1
        by_cases hP : f (19) = 43
        · have HP := hide hP
          have hz : (f (19) == 43) = true := by simpa using hP
          clear hP
          go_wp2_with fail
          all_goals
            refine (matches_any g (20) (n - 19 - 1) (n - 19 - 1) (fun i => f (19 + 1 + i)) zshape _ (by show 5 = _; omega) (by omega) (fun i hi => HC1.out _ (by omega))).mono ?_
            rintro e w2 ⟨r, rfl, hr, q2, hq2⟩
            have HR2 := hide hr
            have HQ2 := hide hq2
            clear hr hq2
            go_wp2
            go_ret
            exact ip_six HT.out (by omega) (.inl HP.out) HR2.out HQ.out HQ2.out
        by_cases hM : f (19) = 45
        · have HP := hide hM
          have hz : (f (19) == 45) = true := by simpa using hM
          have hz0 : (f (19) == 43) = false := by simpa using hP
          clear hP hM
          go_wp2_with fail
          all_goals
            refine (matches_any g (20) (n - 19 - 1) (n - 19 - 1) (fun i => f (19 + 1 + i)) zshape _ (by show 5 = _; omega) (by omega) (fun i hi => HC1.out _ (by omega))).mono ?_
            rintro e w2 ⟨r, rfl, hr, q2, hq2⟩
            have HR2 := hide hr
            have HQ2 := hide hq2
            clear hr hq2
            go_wp2
            go_ret
            exact ip_six HT.out (by omega) (.inr HP.out) HR2.out HQ.out HQ2.out
        have HP := hide hP
        have HM := hide hM
        have hz : (f (19) == 45) = false := by simpa using hM
        have hz0 : (f (19) == 43) = false := by simpa using hP
        clear hP hM
        go_wp2_with fail
        all_goals (go_ret; exact ip_no (fun h => P.zt_no6 (by omega) HP.out HM.out (HT.out.1 h)) HQ.out)
      have HL1 := hide hL1
      have HL6 := hide hL6
      have hx1 : ((n - 19 : Nat) : Int) ≠ 1 := by omega
      have hx6 : ((n - 19 : Nat) : Int) ≠ 6 := by omega
      clear hL1 hL6
      go_wp2_with fail
      all_goals (go_ret; exact ip_no (fun h => P.zt_else (by have := HL1.out; omega) (by have := HL6.out; omega) (HT.out.1 h)) HQ.out)

end Go.Proofs.Qxb6601717a
