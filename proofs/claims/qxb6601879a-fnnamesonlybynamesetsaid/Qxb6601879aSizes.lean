/-
  The sums of bytes: zzAddBytes (32), zzAddWords (30), zzAddStrings (29), zzClassBytes (17), zzNamesBytes (8): they return some number.
-/
import Derived.Test.Qxb6601879aBase
namespace Go.Proofs.Qxb6601879a
open Go.RowKit

theorem addBytes_any (t k : Int) (w : World) : Calls Try.prog 32 #[.int .i64 t, .int .i64 k] w (IntPost w) := by
  go_enter Try.func32, Try.ntmps32
  go_wp2
  all_goals (go_ret; exact ⟨_, rfl, rfl⟩)

theorem addWords_any (t c wd : Int) (w : World) (h : 0 < wd) : Calls Try.prog 30 #[.int .i64 t, .int .i64 c, .int .i64 wd] w (IntPost w) := by
  go_enter Try.func30, Try.ntmps30
  go_wp2_with (go_at_call 32; refine (addBytes_any _ _ _).mono ?_; rintro e w' ⟨r, rfl, hw⟩; replace hw := hw.symm; subst hw)
  all_goals (go_ret; exact ⟨_, rfl, rfl⟩)

set_option maxHeartbeats 400000 in
theorem addStrings_any (t : Int) (a : Option Addr) (n c : Nat) (S : Nat → ByteArray) (w : World) (hn : n ≤ 1048576) (hA : Arr w a n (fun i => .string (S i))) :
    Calls Try.prog 29 #[.int .i64 t, .slice a n c] w (IntPost w) := by
  obtain ⟨b, o, ha, hc⟩ := hA
  have HA := hide ha
  have HC := hide hc
  clear ha hc
  go_enter Try.func29, Try.ntmps29
  go_wp2_with (go_at_call 30; refine (addWords_any _ _ _ _ (by omega)).mono ?_; rintro e w' ⟨r, rfl, hw⟩; replace hw := hw.symm; subst hw)
  go_loop [0, 5] (fun t i => ∃ (k : Nat) (u : Int), k ≤ n ∧ i = .int .i64 k ∧ t = .int .i64 u) (fun _ i => n - (intOf i).toNat)
  case atStart => exact ⟨0, _, Nat.zero_le _, rfl, rfl⟩
  case round =>
    obtain ⟨k, u, hk, rfl, rfl⟩ := hrel
    by_cases hlt : k < n
    · obtain rfl := HA.out (by omega)
      have g0 := HC.out k hlt
      by_cases hu : u ≤ 1048576
      · go_wp2_with (go_at_call 32; refine (addBytes_any _ _ _).mono ?_; rintro e w' ⟨r, rfl, hw⟩; replace hw := hw.symm; subst hw)
        go_round
        case rel => exact ⟨k + 1, _, by omega, by go_num, rfl⟩
        case measure => simp [intOf]; omega
      · go_wp2_with fail
        go_ret
        exact ⟨_, rfl, rfl⟩
    · go_wp2_with fail
      go_ret
      exact ⟨_, rfl, rfl⟩

set_option maxHeartbeats 400000 in
theorem classBytes_any (t : Int) (a1 a2 a3 a4 a5 : Option Addr) (n1 n2 n3 n4 n5 c1 c2 c3 c4 c5 : Nat) (A : Nat → Option Addr) (L C : Nat → Nat) (w : World) (hn : n5 ≤ 1048576) (hA : Arr w a5 n5 (fun i => .slice (A i) (L i) (C i))) :
    Calls Try.prog 17 #[.int .i64 t, .slice a1 n1 c1, .slice a2 n2 c2, .slice a3 n3 c3, .slice a4 n4 c4, .slice a5 n5 c5] w (IntPost w) := by
  obtain ⟨b, o, ha, hc⟩ := hA
  have HA := hide ha
  have HC := hide hc
  clear ha hc
  go_enter Try.func17, Try.ntmps17
  go_wp2_with (go_at_call 30; refine (addWords_any _ _ _ _ (by omega)).mono ?_; rintro e w' ⟨r, rfl, hw⟩; replace hw := hw.symm; subst hw)
  go_loop [0, 13] (fun t i => ∃ (k : Nat) (u : Int), k ≤ n5 ∧ i = .int .i64 k ∧ t = .int .i64 u) (fun _ i => n5 - (intOf i).toNat)
  case atStart => exact ⟨0, _, Nat.zero_le _, rfl, rfl⟩
  case round =>
    obtain ⟨k, u, hk, rfl, rfl⟩ := hrel
    by_cases hlt : k < n5
    · obtain rfl := HA.out (by omega)
      have g0 := HC.out k hlt
      by_cases hu : u ≤ 1048576
      · go_wp2_with (go_at_call 30; refine (addWords_any _ _ _ _ (by omega)).mono ?_; rintro e w' ⟨r, rfl, hw⟩; replace hw := hw.symm; subst hw)
        go_round
        case rel => exact ⟨k + 1, _, by omega, by go_num, rfl⟩
        case measure => simp [intOf]; omega
      · go_wp2_with fail
        go_ret
        exact ⟨_, rfl, rfl⟩
    · go_wp2_with fail
      go_ret
      exact ⟨_, rfl, rfl⟩

theorem namesBytes_any (s : ByteArray) (a0 a1 a2 a3 a4 a5 : Option Addr) (n0 n1 n2 n3 n4 n5 c0 c1 c2 c3 c4 c5 : Nat) (S : Nat → ByteArray) (A : Nat → Option Addr) (L C : Nat → Nat) (w : World)
    (hn0 : n0 ≤ 1048576) (hn : n5 ≤ 1048576) (hS : Arr w a0 n0 (fun i => .string (S i))) (hA : Arr w a5 n5 (fun i => .slice (A i) (L i) (C i))) :
    Calls Try.prog 8 #[.string s, .slice a0 n0 c0, .slice a1 n1 c1, .slice a2 n2 c2, .slice a3 n3 c3, .slice a4 n4 c4, .slice a5 n5 c5] w (IntPost w) := by
  have HS := hide hS
  have HA := hide hA
  clear hS hA
  go_enter Try.func8, Try.ntmps8
  go_wp2_with fail
  refine (addBytes_any _ _ _).mono ?_
  rintro e w' ⟨r, rfl, hw⟩
  replace hw := hw.symm
  subst hw
  go_wp2_with fail
  refine (addStrings_any _ _ _ _ S _ hn0 HS.out).mono ?_
  rintro e w' ⟨r2, rfl, hw⟩
  replace hw := hw.symm
  subst hw
  go_wp2_with fail
  refine (classBytes_any _ _ _ _ _ _ _ _ _ _ _ _ _ _ _ _ A L C _ hn HA.out).mono ?_
  rintro e w' ⟨r3, rfl, hw⟩
  replace hw := hw.symm
  subst hw
  go_wp2
  go_ret
  exact ⟨_, rfl, rfl⟩

end Go.Proofs.Qxb6601879a
