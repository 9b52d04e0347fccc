/-
  THE STATEMENT 'Rows.FnReadSeatNamesSortInSeatOrderSaid': the frame is the tool's (proof-skeleton.mjs), the walk is filled in.
-/
import Derived.Test.Qxb6601761aRows
import Derived.Test.Qxb6601761aOrder
import Derived.ChangeAlike
import Derived.WalkKit
import Derived.ProofKit
import Derived.OpenShut
import Derived.ShutString
namespace Go.Proofs.Qxb6601761a.fnReadSeatNamesSortInSeatOrder
open Go.ChangeShapes Go.WideShapes Go.ChangeAt Go.RowKit
open Go.ChangeMaps (open_string shut_string)
set_option linter.unusedVariables false      -- a walk need not use every 'w<i>' (that an integer argument fits its kind)

theorem own : ownKnob Try.prog.godebug = none := by kernel_rfl

/-! ### THE PLAIN LAW: names sort as their seats do -/
theorem seat_true {l : List UInt8} {n : Int} (h : P.seat l = (n, true)) : ∃ x y, l = P.name x y ∧ n = P.num x y ∧ ((48 : Int) ≤ (x.toNat : Int) ∧ (x.toNat : Int) ≤ 57) ∧ ((48 : Int) ≤ (y.toNat : Int) ∧ (y.toNat : Int) ≤ 57) ∧ n ≠ 0 := by
  by_cases e : ∃ x y, l = P.name x y
  · obtain ⟨x, y, rfl⟩ := e
    rw [P.seat_name] at h
    split at h
    · rename_i hd
      simp only [Prod.mk.injEq] at h
      rw [Bool.and_eq_true] at hd
      refine ⟨x, y, rfl, h.1.symm, (dg_iff x).1 hd.1, (dg_iff y).1 hd.2, ?_⟩
      have := h.2
      rw [← h.1]
      simpa using this
    · simp at h
  · rw [P.seat_other l (fun a b e' => e ⟨a, b, e'⟩)] at h
    simp at h
theorem seat_valid {l : List UInt8} {n : Int} (h : P.seat l = (n, true)) : 1 ≤ n ∧ n ≤ 99 := by
  obtain ⟨x, y, _, hn, hx, hy, h0⟩ := seat_true h
  unfold P.num at hn
  omega
theorem size_name {s : ByteArray} {x y : UInt8} (h : s.data.toList = P.name x y) : s.size = 9 := by
  have e : s.data.toList.length = s.size := Array.length_toList
  rw [← e, h]
  rfl
theorem at_name {s : ByteArray} {x y : UInt8} (h : s.data.toList = P.name x y) (k : Nat) : at' s k = ((P.name x y).getD k 0).toNat := by unfold at'; rw [h]
theorem order {a b : ByteArray} {na nb c : Int} (ha : P.seat a.data.toList = (na, true)) (hb : P.seat b.data.toList = (nb, true)) (hc : Cmp a b c) :
    (c = -1 ∧ na < nb) ∨ (c = 1 ∧ nb < na) ∨ (c = 0 ∧ na = nb) := by
  obtain ⟨x, y, ea, hn, hx, hy, _⟩ := seat_true ha
  obtain ⟨x', y', eb, hn', hx', hy', _⟩ := seat_true hb
  have hs := size_name ea
  have e6a : at' a 6 = (x.toNat : Int) := at_name ea 6
  have e7a : at' a 7 = (y.toNat : Int) := at_name ea 7
  have e6b : at' b 6 = (x'.toNat : Int) := at_name eb 6
  have e7b : at' b 7 = (y'.toNat : Int) := at_name eb 7
  have hsame : ∀ k, k ≠ 6 → k ≠ 7 → at' a k = at' b k := by
    intro k h6 h7
    rw [at_name ea, at_name eb]
    match k, h6, h7 with
    | 0, _, _ => rfl
    | 1, _, _ => rfl
    | 2, _, _ => rfl
    | 3, _, _ => rfl
    | 4, _, _ => rfl
    | 5, _, _ => rfl
    | 8, _, _ => rfl
    | (n + 9), _, _ => rfl
  unfold P.num at hn hn'
  rcases hc with ⟨rfl, k, hk, hall, hlt⟩ | ⟨rfl, k, hk, hall, hlt⟩ | ⟨rfl, hall⟩
  · left
    refine ⟨rfl, ?_⟩
    by_cases h6 : k = 6
    · subst h6; omega
    by_cases h7 : k = 7
    · subst h7
      have := hall 6 (by omega)
      omega
    have := hsame k h6 h7
    omega
  · right; left
    refine ⟨rfl, ?_⟩
    by_cases h6 : k = 6
    · subst h6; omega
    by_cases h7 : k = 7
    · subst h7
      have := hall 6 (by omega)
      omega
    have := hsame k h6 h7
    omega
  · right; right
    have h6 := hall 6 (by omega)
    have h7 := hall 7 (by omega)
    exact ⟨rfl, by omega⟩

/-! ### STEP 1: THE WALK -/
theorem bytes_yes (a b : ByteArray) (w : World) (h : a.size + b.size ≤ 1048576) : Calls Try.prog 11 #[.string a, .string b] w fun e w' => e = .returned (.bool true) ∧ w' = w := by
  go_enter Try.func11, Try.ntmps11
  go_wp2
  go_ret
  exact ⟨rfl, rfl⟩
theorem bytes_no (a b : ByteArray) (w : World) (ha : a.size ≤ 9223372036854775807) (hb : b.size ≤ 9223372036854775807) (h : 1048576 < a.size + b.size) : Calls Try.prog 11 #[.string a, .string b] w fun e w' => e = .returned (.bool false) ∧ w' = w := by
  by_cases h1 : 1048576 < a.size
  · go_enter Try.func11, Try.ntmps11
    go_wp2
    go_ret
    exact ⟨rfl, rfl⟩
  by_cases h2 : 1048576 < b.size
  · go_enter Try.func11, Try.ntmps11
    go_wp2
    go_ret
    exact ⟨rfl, rfl⟩
  · go_enter Try.func11, Try.ntmps11
    go_wp2
    go_ret
    exact ⟨rfl, rfl⟩

theorem ret_bool {a b : Bool} (h : a = b) : Ending.returned (.bool a) = .returned (.bool b) := by rw [h]
theorem grown_drewN (w : World) (q : Nat) : Grown w (w.drewN q) := ⟨(World.keptBut_refl w _).alike (World.drewN_alike _ _), fun _ => rfl, Nat.le_refl _⟩

set_option maxHeartbeats 1000000 in
theorem walk (a0 : ByteArray) (a1 : ByteArray) (w0 : a0.size ≤ maxLen) (w1 : a1.size ≤ maxLen) (w : World) :
    Calls Try.prog 4 #[.string a0, .string a1] w fun e w' => e = .returned (.bool true) ∧ Grown w w' := by
  unfold maxLen at w0 w1
  by_cases hbig : 1048576 < a0.size + a1.size
  · go_enter Try.func4, Try.ntmps4
    go_wp2_with fail
    refine (bytes_no a0 a1 _ w0 w1 hbig).mono ?_
    rintro e w' ⟨rfl, hw⟩
    replace hw := hw.symm
    subst hw
    go_wp2
    go_ret
    exact ⟨rfl, Grown.refl _⟩
  have hle : a0.size + a1.size ≤ 1048576 := by omega
  by_cases h19 : 524288 < a0.size ∨ 524288 < a1.size
  · go_enter Try.func4, Try.ntmps4
    go_wp2_with fail
    refine (bytes_yes a0 a1 _ hle).mono ?_
    rintro e w' ⟨rfl, hw⟩
    replace hw := hw.symm
    subst hw
    by_cases h0 : 524288 < a0.size
    · go_wp2_with fail
      go_ret
      exact ⟨rfl, Grown.refl _⟩
    · have h1 : 524288 < a1.size := by omega
      go_wp2_with fail
      go_ret
      exact ⟨rfl, Grown.refl _⟩
  have ha : a0.size ≤ 524288 := by omega
  have hb : a1.size ≤ 524288 := by omega
  clear h19 hbig
  obtain ⟨na, oka, hra⟩ : ∃ n b, P.seat a0.data.toList = (n, b) := ⟨_, _, rfl⟩
  obtain ⟨nb, okb, hrb⟩ : ∃ n b, P.seat a1.data.toList = (n, b) := ⟨_, _, rfl⟩
  have HA := hide hra
  have HB := hide hrb
  have hva : oka = true → 1 ≤ na ∧ na ≤ 99 := fun h => by subst h; exact seat_valid hra
  have hvb : okb = true → 1 ≤ nb ∧ nb ≤ 99 := fun h => by subst h; exact seat_valid hrb
  clear hra hrb
  go_enter Try.func4, Try.ntmps4
  go_wp2_with fail
  refine (bytes_yes a0 a1 _ hle).mono ?_
  rintro e w' ⟨rfl, hw⟩
  replace hw := hw.symm
  subst hw
  go_wp2_with fail
  refine (zzRead_any a0 _ (by omega) na oka HA.out).mono ?_
  rintro e w' ⟨rfl, hw⟩
  replace hw := hw.symm
  subst hw
  go_wp2_with fail
  refine (zzRead_any a1 _ (by omega) nb okb HB.out).mono ?_
  rintro e w' ⟨rfl, hw⟩
  replace hw := hw.symm
  subst hw
  cases oka with
  | false =>
    clear hva
    cases okb with
    | false =>
      clear hvb
      go_wp2_with fail
      go_ret
      exact ⟨rfl, Grown.refl _⟩
    | true =>
      obtain ⟨hb1, hb2⟩ := hvb rfl
      clear hvb
      go_wp2_with fail
      refine (valid_yes nb _ hb1 hb2).mono ?_
      rintro e w' ⟨rfl, hw⟩
      replace hw := hw.symm
      subst hw
      go_wp2_with fail
      go_ret
      exact ⟨rfl, Grown.refl _⟩
  | true =>
    obtain ⟨ha1, ha2⟩ := hva rfl
    clear hva
    go_wp2_with fail
    refine (valid_yes na _ ha1 ha2).mono ?_
    rintro e w' ⟨rfl, hw⟩
    replace hw := hw.symm
    subst hw
    cases okb with
    | false =>
      clear hvb
      go_wp2_with fail
      go_ret
      exact ⟨rfl, Grown.refl _⟩
    | true =>
      obtain ⟨hb1, hb2⟩ := hvb rfl
      clear hvb
      go_wp2_with fail
      refine (valid_yes nb _ hb1 hb2).mono ?_
      rintro e w' ⟨rfl, hw⟩
      replace hw := hw.symm
      subst hw
      have hsz : a1.size = a0.size := by
        obtain ⟨_, _, e, _⟩ := seat_true HA.out
        obtain ⟨_, _, e', _⟩ := seat_true HB.out
        rw [size_name e, size_name e']
      have HZ := hide hsz
      clear hsz
      go_wp2_with fail
      refine (compare_same a0 a1 _ HZ.out (by omega)).mono ?_
      rintro e w2 ⟨c, rfl, hc, q, hq⟩
      have HO := order HA.out HB.out hc
      have HG : Hid (Grown w w2) := by rw [hq]; exact grown_drewN w q
      clear hc hq
      rcases HO with ⟨rfl, h⟩ | ⟨rfl, h⟩ | ⟨rfl, h⟩
      · have he : (na == nb) = false := by simp; omega
        go_wp2_with fail
        go_ret
        exact ⟨ret_bool (by simp; omega), HG.out⟩
      · have he : (na == nb) = false := by simp; omega
        go_wp2_with fail
        go_ret
        exact ⟨ret_bool (by simp; omega), HG.out⟩
      · have he : (na == nb) = true := by simpa using h
        have h1 : na ≤ nb := by omega
        have h2 : nb ≤ na := by omega
        clear h
        go_wp2_with fail
        go_ret
        exact ⟨ret_bool (by simp; omega), HG.out⟩

/-! ### THE ROW's STEP: WRITTEN OUT: LEAVE IT -/
set_option maxRecDepth 100000 in
theorem lifted (os : Os) (started : os.Started) (H : Type) (enc : TypeId × Value → H) :
    ReturnsInHanded {} Try.checked os 4 .any (Rows.fnReadSeatNamesSortInSeatOrderSpec.pre6 enc Try.prog Try.f4 Rows.fnReadSeatNamesSortInSeatOrderRow.domain false) (Rows.fnReadSeatNamesSortInSeatOrderSpec.post enc Try.prog Try.f4 false true false false) := by
  refine returnsInHanded_of_change (C := Try.checked) own started (by kernel_rfl) Try.func4
    (ChangeSpec.witness6 (enc := enc) (C := Try.checked) false ⟨#[], #[.string ByteArray.empty, .string ByteArray.empty], []⟩ 8 (by kernel_rfl) (by kernel_rfl) (by kernel_rfl) (by kernel_rfl)) ?_
  intro W base args ds gs before hval0 hW hcnd _
  have hval : ∀ (j : Nat) t v, Try.f4.params[j]? = some t → args[j]? = some v → Value.okWide Try.prog W .any base t v := hval0
  have hW' := hW
  obtain ⟨p, q, hA0, hV, rfl, hfz, hnd⟩ := hW
  have hA : DataW.TrodAll enc Try.prog W 0 (fun _ => true) true Try.f4.params.toList args.toList ds p := hA0
  rw [Try.params4] at hA hval
  obtain ⟨v0, vs0, d0, ds0, p0, q0, hargs, rfl, rfl, h0, r0⟩ := trodAll_cons hA
  obtain ⟨v1, vs1, d1, ds1, p1, q1, rfl, rfl, rfl, h1, r1⟩ := trodAll_cons r0
  obtain ⟨rfl, rfl, rfl⟩ := trodAll_nil r1
  obtain rfl : args = #[v0, v1] := by cases args; simp_all
  obtain ⟨rfl, rfl⟩ := trodVars_none hV
  obtain ⟨a0, rfl, rfl, rfl, w0⟩ := open_string Try.underlying9 (hval 0 9 v0 rfl rfl) h0
  obtain ⟨a1, rfl, rfl, rfl, w1⟩ := open_string Try.underlying9 (hval 1 9 v1 rfl rfl) h1
  clear hA0 hval0
  simp only [List.append_nil] at hW'
  refine (walk a0 a1 w0 w1 W).mono fun e W' ⟨he, hg⟩ => ?_
  subst he
  exact ⟨_, rfl, post_of_same (pa := []) (pv := []) hW' (fun _ _ _ => (trodAll_cons_mk (shut_bool Try.underlying4 _) trodAll_mk0)) (fun sp _ => (trodAll_cons_mk (shut_string Try.underlying9 w0) (trodAll_cons_mk (shut_string Try.underlying9 w1) trodAll_mk0))) (fun _ _ => rfl) rfl
    (hg.frame _) hg.2.1 (ok_one (by kernel_rfl) rfl (okWide_bool_mk Try.underlying4 _))⟩

theorem over : Rows.fnReadSeatNamesSortInSeatOrderRow.holds Try.pinned (OpenSpec.ofChange Rows.fnReadSeatNamesSortInSeatOrderSpec) :=
  OpenClaim.holds_of_wide 4 Try.f4 rfl rfl rfl rfl rfl rfl rfl ⟨rfl, rfl, rfl, rfl, rfl⟩ rfl rfl rfl rfl rfl (by kernel_rfl) Try.func4 (by kernel_rfl)
    (of_decide_eq_true (by kernel_rfl)) (by unfold Func.isWrapper; first | (rw [if_pos (by decide +kernel)]; kernel_rfl) | (rw [if_neg (by decide +kernel)]; exact ⟨rfl, rfl⟩))
    (fun os started H enc _ => lifted os started H enc)

/-- ████ THE STATEMENT ████ -/
theorem proved : Rows.FnReadSeatNamesSortInSeatOrderSaid :=
  over
end Go.Proofs.Qxb6601761a.fnReadSeatNamesSortInSeatOrder
