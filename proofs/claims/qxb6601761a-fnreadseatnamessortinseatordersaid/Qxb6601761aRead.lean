/-
  readSeat (20), ZZreadSeat (9): they answer as P.seat does.
-/
import Derived.Test.Qxb6601761aCuts
import Derived.Test.Qxb6601761aPlain
import Derived.Handy
namespace Go.Proofs.Qxb6601761a
open Go.RowKit

theorem hide {p : Prop} (h : p) : Hid p := h

theorem cutPre (s : ByteArray) (w : World) (d : List UInt8) (b : Bool) (hd : Lib.trimPrefix s.data.toList P.pre = d) (hb : Lib.hasPrefix s.data.toList P.pre = b) :
    Calls Try.prog 22 #[.string s, .string ⟨#[65, 103, 101, 110, 116, 91]⟩] w fun e w' => e = .returned (.tuple #[.string ⟨d.toArray⟩, .bool b]) ∧ w' = w := by
  subst hd hb
  exact strings_CutPrefix s _ w
theorem cutSuf (s : ByteArray) (w : World) (hs : s.size ≤ 9223372036854775807) (d : List UInt8) (b : Bool) (hd : Lib.trimSuffix s.data.toList P.suf = d) (hb : Lib.hasSuffix s.data.toList P.suf = b) :
    Calls Try.prog 23 #[.string s, .string ⟨#[93]⟩] w fun e w' => e = .returned (.tuple #[.string ⟨d.toArray⟩, .bool b]) ∧ w' = w := by
  subst hd hb
  exact strings_CutSuffix s _ w hs

set_option maxHeartbeats 1000000 in
/-- The cut text is no two bytes between the two ends. -/
theorem read_no (s : ByteArray) (w : World) (d1 d2 : List UInt8) (b1 b2 : Bool) (hd1 : Lib.trimPrefix s.data.toList P.pre = d1) (hb1 : Lib.hasPrefix s.data.toList P.pre = b1)
    (hd2 : Lib.trimSuffix d1 P.suf = d2) (hb2 : Lib.hasSuffix d1 P.suf = b2) (hl : d1.length ≤ 1048576) (hno : b1 = false ∨ b2 = false ∨ d2.length ≠ 2) :
    Calls Try.prog 20 #[.string s] w fun e w' => e = .returned (.tuple #[.int .i64 0, .bool false]) ∧ w' = w := by
  have H1 := hide hd1
  have H2 := hide hb1
  have H3 := hide hd2
  have H4 := hide hb2
  clear hd1 hb1 hd2 hb2
  have hsz : (⟨d1.toArray⟩ : ByteArray).size ≤ 9223372036854775807 := by show d1.toArray.size ≤ _; simp; omega
  go_enter Try.func20, Try.ntmps20
  go_wp2_with fail
  refine (cutPre s _ d1 b1 H1.out H2.out).mono ?_
  rintro e w' ⟨rfl, hw⟩
  replace hw := hw.symm
  subst hw
  go_wp2_with fail
  refine (cutSuf ⟨d1.toArray⟩ _ hsz d2 b2 H3.out H4.out).mono ?_
  rintro e w' ⟨rfl, hw⟩
  replace hw := hw.symm
  subst hw
  rcases hno with rfl | rfl | h
  · go_wp2_with fail
    all_goals (go_ret2; exact ⟨rfl, rfl⟩)
  · cases b1
    all_goals go_wp2_with fail
    all_goals (go_ret2; exact ⟨rfl, rfl⟩)
  · cases b1 <;> cases b2
    all_goals go_wp2_with fail
    all_goals (go_ret2; exact ⟨rfl, rfl⟩)

/-- What two bytes between the ends come to. -/
def two (h o : UInt8) : Int × Bool := if P.dg h && P.dg o then (P.num h o, P.num h o != 0) else (0, false)
theorem dg_iff (c : UInt8) : P.dg c = true ↔ (48 : Int) ≤ (c.toNat : Int) ∧ (c.toNat : Int) ≤ 57 := by
  simp [P.dg, UInt8.le_iff_toNat_le]; omega
theorem two_no0 {h o : UInt8} {x : Int × Bool} (hx : two h o = x) (a : (h.toNat : Int) < 48 ∨ 57 < (h.toNat : Int)) : ((0 : Int), false) = x := by
  have e : P.dg h = false := by
    cases e : P.dg h with
    | false => rfl
    | true => have := (dg_iff h).1 e; omega
  rw [← hx]; simp [two, e]
theorem two_no1 {h o : UInt8} {x : Int × Bool} (hx : two h o = x) (a : (o.toNat : Int) < 48 ∨ 57 < (o.toNat : Int)) : ((0 : Int), false) = x := by
  have e : P.dg o = false := by
    cases e : P.dg o with
    | false => rfl
    | true => have := (dg_iff o).1 e; omega
  rw [← hx]; simp [two, e]
theorem two_yes {h o : UInt8} {x : Int × Bool} (hx : two h o = x) (a : (48 : Int) ≤ (h.toNat : Int) ∧ (h.toNat : Int) ≤ 57) (b : (48 : Int) ≤ (o.toNat : Int) ∧ (o.toNat : Int) ≤ 57) : (P.num h o, P.num h o != 0) = x := by
  rw [← hx]; simp [two, (dg_iff h).2 a, (dg_iff o).2 b]
theorem ret_ib {a n : Int} {b m : Bool} (h : (a, b) = (n, m)) : Ending.returned (.tuple #[.int .i64 a, .bool b]) = .returned (.tuple #[.int .i64 n, .bool m]) := by
  simp only [Prod.mk.injEq] at h
  rw [h.1, h.2]

set_option maxHeartbeats 1000000 in
/-- Two bytes lie between the two ends. -/
theorem read_two (s : ByteArray) (w : World) (d1 : List UInt8) (h o : UInt8) (hd1 : Lib.trimPrefix s.data.toList P.pre = d1) (hb1 : Lib.hasPrefix s.data.toList P.pre = true)
    (hd2 : Lib.trimSuffix d1 P.suf = [h, o]) (hb2 : Lib.hasSuffix d1 P.suf = true) (hl : d1.length ≤ 1048576) (n : Int) (b : Bool) (hr : two h o = (n, b)) :
    Calls Try.prog 20 #[.string s] w fun e w' => e = .returned (.tuple #[.int .i64 n, .bool b]) ∧ w' = w := by
  have H1 := hide hd1
  have H2 := hide hb1
  have H3 := hide hd2
  have H4 := hide hb2
  have HR := hide hr
  clear hd1 hb1 hd2 hb2 hr
  have hsz : (⟨d1.toArray⟩ : ByteArray).size ≤ 9223372036854775807 := by show d1.toArray.size ≤ _; simp; omega
  go_enter Try.func20, Try.ntmps20
  go_wp2_with fail
  refine (cutPre s _ d1 true H1.out H2.out).mono ?_
  rintro e w' ⟨rfl, hw⟩
  replace hw := hw.symm
  subst hw
  go_wp2_with fail
  refine (cutSuf ⟨d1.toArray⟩ _ hsz [h, o] true H3.out H4.out).mono ?_
  rintro e w' ⟨rfl, hw⟩
  replace hw := hw.symm
  subst hw
  go_wp2_with fail
  go_rounds 3
  all_goals go_ret2
  · exact ⟨ret_ib (two_no0 HR.out ‹_›), rfl⟩
  · exact ⟨ret_ib (two_no1 HR.out ‹_›), rfl⟩
  · exact ⟨ret_ib (two_yes HR.out ‹_› ‹_›), rfl⟩
  · exact ⟨ret_ib (two_no1 HR.out (.inl ‹_›)), rfl⟩
  · exact ⟨ret_ib (two_no0 HR.out (.inl ‹_›)), rfl⟩

end Go.Proofs.Qxb6601761a
