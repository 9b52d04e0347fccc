/-
  THE LEAVES' WALKS: isDigit (23), zzb1Digit (17), zzb1DateByte (22), zzBytes (13).
-/
import Derived.Test.Qxb6601717aRows
import Derived.Test.Qxb6601717aPlain
import Derived.WalkKit
import Derived.WalkSpells
import Derived.WalkLawsBesides
import Derived.Below
import Derived.Outline
namespace Go.Proofs.Qxb6601717a
open Go.RowKit

theorem hide {p : Prop} (h : p) : Hid p := h
theorem ret_bool {a b : Bool} (h : a = b) : Ending.returned (.bool a) = .returned (.bool b) := by rw [h]

theorem isDigit_any (c : Int) (w : World) :
    Calls Try.prog 23 #[.int .u8 c] w fun e w' => e = .returned (.bool (P.dig c)) ∧ w' = w := by
  by_cases a : 48 ≤ c
  · by_cases b : c ≤ 57
    · rw [P.dig_true a b]
      go_enter Try.func23, Try.ntmps23
      go_wp2
      go_ret
      exact ⟨rfl, rfl⟩
    · rw [P.dig_false (Or.inr (by omega))]
      go_enter Try.func23, Try.ntmps23
      go_wp2
      go_ret
      exact ⟨ret_bool (by simp), rfl⟩
  · rw [P.dig_false (Or.inl (by omega))]
    go_enter Try.func23, Try.ntmps23
    go_wp2
    go_ret
    exact ⟨ret_bool (by simp), rfl⟩

theorem zzDigit_any (c : Int) (w : World) (h0 : 0 ≤ c) (h1 : c ≤ 255) :
    Calls Try.prog 17 #[.int .u8 c] w fun e w' => e = .returned (.bool (P.dig c)) ∧ w' = w := by
  have hd : decide ((c - 48) % 256 < 10) = P.dig c := by
    by_cases h : 48 ≤ c ∧ c ≤ 57
    · rw [P.dig_true h.1 h.2]; simp; omega
    · rw [P.dig_false (by omega)]; simp; omega
  have HD := hide hd
  clear hd
  go_enter Try.func17, Try.ntmps17
  go_wp2
  go_ret
  exact ⟨ret_bool HD.out, rfl⟩

theorem zzBytes_le (a : Option Addr) (len cap : Nat) (w : World) (h : len ≤ 1048576) :
    Calls Try.prog 13 #[.slice a len cap] w fun e w' => e = .returned (.bool true) ∧ w' = w := by
  go_enter Try.func13, Try.ntmps13
  go_wp2
  go_ret
  exact ⟨rfl, rfl⟩

theorem zzBytes_gt (a : Option Addr) (len cap : Nat) (w : World) (h : 1048576 < len) :
    Calls Try.prog 13 #[.slice a len cap] w fun e w' => e = .returned (.bool false) ∧ w' = w := by
  go_enter Try.func13, Try.ntmps13
  go_wp2
  go_ret
  exact ⟨rfl, rfl⟩

theorem dateByte_any (i : Nat) (c : Int) (w : World) (h0 : 0 ≤ c) (h1 : c ≤ 255) (hi : i < 19) :
    Calls Try.prog 22 #[.int .i64 i, .int .u8 c] w fun e w' => e = .returned (.bool (P.headAt i c)) ∧ w' = w := by
  by_cases a4 : i = 4
  · subst a4
    go_enter Try.func22, Try.ntmps22
    go_wp2
    go_ret
    exact ⟨ret_bool (by simp [P.headAt]), rfl⟩
  by_cases a7 : i = 7
  · subst a7
    go_enter Try.func22, Try.ntmps22
    go_wp2
    go_ret
    exact ⟨ret_bool (by simp [P.headAt]), rfl⟩
  by_cases a10 : i = 10
  · subst a10
    go_enter Try.func22, Try.ntmps22
    go_wp2
    go_ret
    exact ⟨ret_bool (by simp [P.headAt]), rfl⟩
  by_cases a13 : i = 13
  · subst a13
    go_enter Try.func22, Try.ntmps22
    go_wp2
    go_ret
    exact ⟨ret_bool (by simp [P.headAt]), rfl⟩
  by_cases a16 : i = 16
  · subst a16
    go_enter Try.func22, Try.ntmps22
    go_wp2
    go_ret
    exact ⟨ret_bool (by simp [P.headAt]), rfl⟩
  have e : P.headAt i c = P.dig c := by simp [P.headAt, a4, a7, a10, a13, a16]
  have b4 : ((i : Int) == 4) = false := by simp; omega
  have b7 : ((i : Int) == 7) = false := by simp; omega
  have b10 : ((i : Int) == 10) = false := by simp; omega
  have b13 : ((i : Int) == 13) = false := by simp; omega
  have b16 : ((i : Int) == 16) = false := by simp; omega
  have HE := hide e
  clear e
  go_enter Try.func22, Try.ntmps22
  go_wp2_with (go_at_call 17; refine (zzDigit_any c _ h0 h1).mono ?_; rintro e w' ⟨rfl, rfl⟩)
  go_ret
  exact ⟨ret_bool HE.out.symm, rfl⟩

end Go.Proofs.Qxb6601717a
