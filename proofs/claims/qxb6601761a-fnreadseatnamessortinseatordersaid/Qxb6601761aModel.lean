/-
  zzSeatNameModel (10): it answers as P.seat does.
-/
import Derived.Test.Qxb6601761aRead
namespace Go.Proofs.Qxb6601761a
open Go.RowKit

theorem model_size (s : ByteArray) (w : World) (h : s.size ≠ 9) :
    Calls Try.prog 10 #[.string s] w fun e w' => e = .returned (.tuple #[.int .i64 0, .bool false]) ∧ w' = w := by
  have hb : ((s.size : Int) != 9) = true := by simp; omega
  go_enter Try.func10, Try.ntmps10
  go_wp2
  go_ret2
  exact ⟨rfl, rfl⟩

theorem seat_by {l : List UInt8} {x : Int × Bool} (hx : P.seat l = x) (h : ∀ h o, l = P.name h o → two h o = (0, false)) : ((0 : Int), false) = x := by
  rw [← hx]
  by_cases e : ∃ h o, l = P.name h o
  · obtain ⟨a, b, rfl⟩ := e
    rw [P.seat_name]
    exact (h a b rfl).symm
  · exact (P.seat_other l (fun a b e' => e ⟨a, b, e'⟩)).symm
section
variable {c0 c1 c2 c3 c4 c5 c6 c7 c8 : UInt8} {x : Int × Bool}
theorem ne0 (hx : P.seat [c0, c1, c2, c3, c4, c5, c6, c7, c8] = x) (h : ¬ (c0.toNat : Int) = 65) : ((0 : Int), false) = x :=
  seat_by hx (fun a b e => by simp only [P.name, List.cons.injEq] at e; exact absurd (by simp [e]) h)
theorem ne1 (hx : P.seat [c0, c1, c2, c3, c4, c5, c6, c7, c8] = x) (h : ¬ (c1.toNat : Int) = 103) : ((0 : Int), false) = x :=
  seat_by hx (fun a b e => by simp only [P.name, List.cons.injEq] at e; exact absurd (by simp [e]) h)
theorem ne2 (hx : P.seat [c0, c1, c2, c3, c4, c5, c6, c7, c8] = x) (h : ¬ (c2.toNat : Int) = 101) : ((0 : Int), false) = x :=
  seat_by hx (fun a b e => by simp only [P.name, List.cons.injEq] at e; exact absurd (by simp [e]) h)
theorem ne3 (hx : P.seat [c0, c1, c2, c3, c4, c5, c6, c7, c8] = x) (h : ¬ (c3.toNat : Int) = 110) : ((0 : Int), false) = x :=
  seat_by hx (fun a b e => by simp only [P.name, List.cons.injEq] at e; exact absurd (by simp [e]) h)
theorem ne4 (hx : P.seat [c0, c1, c2, c3, c4, c5, c6, c7, c8] = x) (h : ¬ (c4.toNat : Int) = 116) : ((0 : Int), false) = x :=
  seat_by hx (fun a b e => by simp only [P.name, List.cons.injEq] at e; exact absurd (by simp [e]) h)
theorem ne5 (hx : P.seat [c0, c1, c2, c3, c4, c5, c6, c7, c8] = x) (h : ¬ (c5.toNat : Int) = 91) : ((0 : Int), false) = x :=
  seat_by hx (fun a b e => by simp only [P.name, List.cons.injEq] at e; exact absurd (by simp [e]) h)
theorem ne8 (hx : P.seat [c0, c1, c2, c3, c4, c5, c6, c7, c8] = x) (h : ¬ (c8.toNat : Int) = 93) : ((0 : Int), false) = x :=
  seat_by hx (fun a b e => by simp only [P.name, List.cons.injEq] at e; exact absurd (by simp [e]) h)
theorem nd6 (hx : P.seat [c0, c1, c2, c3, c4, c5, c6, c7, c8] = x) (h : (c6.toNat : Int) < 48 ∨ 57 < (c6.toNat : Int)) : ((0 : Int), false) = x :=
  seat_by hx (fun a b e => by simp only [P.name, List.cons.injEq] at e; exact (two_no0 rfl (by rw [← e.2.2.2.2.2.2.1]; exact h)).symm)
theorem nd7 (hx : P.seat [c0, c1, c2, c3, c4, c5, c6, c7, c8] = x) (h : (c7.toNat : Int) < 48 ∨ 57 < (c7.toNat : Int)) : ((0 : Int), false) = x :=
  seat_by hx (fun a b e => by simp only [P.name, List.cons.injEq] at e; exact (two_no1 rfl (by rw [← e.2.2.2.2.2.2.2.1]; exact h)).symm)
theorem nd67 (hx : P.seat [c0, c1, c2, c3, c4, c5, c6, c7, c8] = x) (h : (((c6.toNat : Int) < 48 ∨ 57 < (c6.toNat : Int)) ∨ (c7.toNat : Int) < 48) ∨ 57 < (c7.toNat : Int)) : ((0 : Int), false) = x := by
  rcases h with (h | h) | h
  · exact nd6 hx h
  · exact nd7 hx (.inl h)
  · exact nd7 hx (.inr h)
theorem nz (hx : P.seat [c0, c1, c2, c3, c4, c5, c6, c7, c8] = x) (h : (((c6.toNat : Int) - 48) * 10 + ((c7.toNat : Int) - 48) == 0) = true) : ((0 : Int), false) = x :=
  seat_by hx (fun a b e => by
    simp only [P.name, List.cons.injEq] at e
    obtain ⟨_, _, _, _, _, _, rfl, rfl, _⟩ := e
    have hn : P.num c6 c7 = 0 := by unfold P.num; simpa using h
    unfold two
    rw [hn]
    split <;> rfl)
theorem u8_of {c : UInt8} {n : Nat} (hn : n < 256) (h : (c.toNat : Int) = (n : Int)) : c = UInt8.ofNat n := by
  apply UInt8.toNat_inj.1
  have : c.toNat = n := by omega
  rw [this]
  simp
  omega
theorem yes (hx : P.seat [c0, c1, c2, c3, c4, c5, c6, c7, c8] = x) (e0 : (c0.toNat : Int) = 65) (e1 : (c1.toNat : Int) = 103) (e2 : (c2.toNat : Int) = 101) (e3 : (c3.toNat : Int) = 110) (e4 : (c4.toNat : Int) = 116) (e5 : (c5.toNat : Int) = 91) (e8 : ((c8.toNat : Int) != 93) = false)
    (a : (((48 : Int) ≤ (c6.toNat : Int) ∧ (c6.toNat : Int) ≤ 57) ∧ (48 : Int) ≤ (c7.toNat : Int)) ∧ (c7.toNat : Int) ≤ 57) (h : (((c6.toNat : Int) - 48) * 10 + ((c7.toNat : Int) - 48) == 0) = false) : (((c6.toNat : Int) - 48) * 10 + ((c7.toNat : Int) - 48), true) = x := by
  have e8' : (c8.toNat : Int) = 93 := by simpa using e8
  obtain rfl : c0 = 65 := u8_of (n := 65) (by omega) e0
  obtain rfl : c1 = 103 := u8_of (n := 103) (by omega) e1
  obtain rfl : c2 = 101 := u8_of (n := 101) (by omega) e2
  obtain rfl : c3 = 110 := u8_of (n := 110) (by omega) e3
  obtain rfl : c4 = 116 := u8_of (n := 116) (by omega) e4
  obtain rfl : c5 = 91 := u8_of (n := 91) (by omega) e5
  obtain rfl : c8 = 93 := u8_of (n := 93) (by omega) e8'
  rw [← two_yes (x := x) (h := c6) (o := c7) hx a.1.1 ⟨a.1.2, a.2⟩]
  have hn : (P.num c6 c7 != 0) = true := by
    unfold P.num
    rw [bne, h]
    rfl
  rw [hn]
  rfl
end

set_option maxHeartbeats 1000000 in
theorem model_nine (c0 c1 c2 c3 c4 c5 c6 c7 c8 : UInt8) (w : World) (n : Int) (b : Bool) (hr : P.seat [c0, c1, c2, c3, c4, c5, c6, c7, c8] = (n, b)) :
    Calls Try.prog 10 #[.string ⟨#[c0, c1, c2, c3, c4, c5, c6, c7, c8]⟩] w fun e w' => e = .returned (.tuple #[.int .i64 n, .bool b]) ∧ w' = w := by
  have HR := hide hr
  clear hr
  go_enter Try.func10, Try.ntmps10
  go_wp2
  all_goals go_ret2
  · have h : ((c8.toNat : Int) != 93) = true := by assumption
    exact ⟨ret_ib (ne8 HR.out (by simpa using h)), rfl⟩
  · exact ⟨ret_ib (nd67 HR.out (by assumption)), rfl⟩
  · exact ⟨ret_ib (nz HR.out (by assumption)), rfl⟩
  · exact ⟨ret_ib (yes HR.out (by assumption) (by assumption) (by assumption) (by assumption) (by assumption) (by assumption) (by assumption) (by assumption) (by assumption)), rfl⟩
  · exact ⟨ret_ib (nd7 HR.out (.inl (by assumption))), rfl⟩
  · exact ⟨ret_ib (nd6 HR.out (.inr (by assumption))), rfl⟩
  · exact ⟨ret_ib (nd6 HR.out (.inl (by assumption))), rfl⟩
  · exact ⟨ret_ib (ne5 HR.out (by assumption)), rfl⟩
  · exact ⟨ret_ib (ne4 HR.out (by assumption)), rfl⟩
  · exact ⟨ret_ib (ne3 HR.out (by assumption)), rfl⟩
  · exact ⟨ret_ib (ne2 HR.out (by assumption)), rfl⟩
  · exact ⟨ret_ib (ne1 HR.out (by assumption)), rfl⟩
  · exact ⟨ret_ib (ne0 HR.out (by assumption)), rfl⟩

theorem nine_of (s : ByteArray) (h : s.size = 9) : ∃ c0 c1 c2 c3 c4 c5 c6 c7 c8, s = ⟨#[c0, c1, c2, c3, c4, c5, c6, c7, c8]⟩ := by
  obtain ⟨⟨l⟩⟩ := s
  have hl : l.length = 9 := h
  match l, hl with
  | [c0, c1, c2, c3, c4, c5, c6, c7, c8], _ => exact ⟨c0, c1, c2, c3, c4, c5, c6, c7, c8, rfl⟩

theorem model_any (s : ByteArray) (w : World) :
    Calls Try.prog 10 #[.string s] w fun e w' => e = .returned (.tuple #[.int .i64 (P.seat s.data.toList).1, .bool (P.seat s.data.toList).2]) ∧ w' = w := by
  by_cases h : s.size = 9
  · obtain ⟨c0, c1, c2, c3, c4, c5, c6, c7, c8, rfl⟩ := nine_of s h
    exact model_nine c0 c1 c2 c3 c4 c5 c6 c7 c8 w _ _ rfl
  · have e : P.seat s.data.toList = (0, false) := P.seat_other _ (fun a b e => h (by
      have := congrArg List.length e
      simp [P.name] at this
      exact this))
    rw [e]
    exact model_size s w h

theorem read_any (s : ByteArray) (w : World) (hs : s.size ≤ 1048576) :
    Calls Try.prog 20 #[.string s] w fun e w' => e = .returned (.tuple #[.int .i64 (P.seat s.data.toList).1, .bool (P.seat s.data.toList).2]) ∧ w' = w := by
  have hl : (Lib.trimPrefix s.data.toList P.pre).length ≤ 1048576 := by
    have := Lib.trimPrefix_le s.data.toList P.pre
    have h2 : s.data.toList.length = s.size := Array.length_toList
    omega
  by_cases hc : Lib.hasPrefix s.data.toList P.pre = true ∧ Lib.hasSuffix (Lib.trimPrefix s.data.toList P.pre) P.suf = true ∧ (Lib.trimSuffix (Lib.trimPrefix s.data.toList P.pre) P.suf).length = 2
  · obtain ⟨h1, h2, h3⟩ := hc
    obtain ⟨a, b, e, e2⟩ := P.name_of_cuts _ h1 h2 h3
    have es : P.seat s.data.toList = two a b := by rw [e]; exact P.seat_name a b
    exact read_two s w _ a b rfl h1 e2 h2 hl _ _ es.symm
  · have e : P.seat s.data.toList = (0, false) := P.seat_other _ (fun a b e => hc (by
      obtain ⟨h1, h2, h3⟩ := P.cuts_of_name a b
      rw [e]
      exact ⟨h1, h2, by rw [h3]; rfl⟩))
    rw [e]
    refine read_no s w _ _ _ _ rfl rfl rfl rfl hl ?_
    cases h1 : Lib.hasPrefix s.data.toList P.pre with
    | false => exact .inl rfl
    | true =>
      cases h2 : Lib.hasSuffix (Lib.trimPrefix s.data.toList P.pre) P.suf with
      | false => exact .inr (.inl rfl)
      | true => exact .inr (.inr (fun h3 => hc ⟨h1, h2, h3⟩))

/-- ZZreadSeat (9). -/
theorem zzRead_any (s : ByteArray) (w : World) (hs : s.size ≤ 1048576) (n : Int) (b : Bool) (hr : P.seat s.data.toList = (n, b)) :
    Calls Try.prog 9 #[.string s] w fun e w' => e = .returned (.tuple #[.int .i64 n, .bool b]) ∧ w' = w := by
  have hR := read_any s w hs
  rw [hr] at hR
  have HR := hide hR
  clear hR hr
  go_enter Try.func9, Try.ntmps9
  go_wp2_with fail
  refine HR.out.mono ?_
  rintro e w' ⟨rfl, hw⟩
  replace hw := hw.symm
  subst hw
  go_wp2
  go_ret2
  exact ⟨rfl, rfl⟩

end Go.Proofs.Qxb6601761a
