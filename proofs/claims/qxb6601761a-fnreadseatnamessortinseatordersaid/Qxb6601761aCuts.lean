/-
  THE LIBRARY's TWO CALLEES, by the shelf's templates: strings.CutPrefix (22), strings.CutSuffix (23).
-/
import Derived.Test.Qxb6601761aRows
import Derived.WalkKit
import Derived.WalkSpells
import Derived.WalkLawsBesides
import Derived.Below
import Derived.Outline
import Derived.Lib.Strings
import Derived.Lib.Slices
import Derived.Lib.Walk
namespace Go.Proofs.Qxb6601761a

set_option maxHeartbeats 1000000 in
theorem strings_CutPrefix (s p : ByteArray) (w : World) :
    Calls Try.prog 22 #[.string s, .string p] w fun e w' => e = .returned (.tuple #[.string ⟨(Lib.trimPrefix s.data.toList p.data.toList).toArray⟩, .bool (Lib.hasPrefix s.data.toList p.data.toList)]) ∧ w' = w := by
  go_enter Try.func22, Try.ntmps22
  go_wp2
  · have h2 : (!((s.extract 0 p.size).toList == p.toList)) = true := by assumption
    have h3 : (decide (p.size ≤ s.size) && ((s.extract 0 p.size).toList == p.toList)) = false := by
      have : ((s.extract 0 p.size).toList == p.toList) = false := by simpa using h2
      rw [this]
      simp
    go_ret2
    refine ⟨?_, rfl⟩
    rw [Lib.trimPrefix_miss s p h3, ← Lib.hasPrefix_raw, h3]
    rfl
  · have h1 : p.size ≤ s.size := by assumption
    have h2 : (!((s.extract 0 p.size).toList == p.toList)) = false := by assumption
    have h2' : ((s.extract 0 p.size).toList == p.toList) = true := by simpa using h2
    go_ret2
    refine ⟨?_, rfl⟩
    rw [Lib.trimPrefix_hit s p h1 h2', ← Lib.hasPrefix_raw, h2', decide_eq_true h1]
    rfl
  · have h1 : ¬ p.size ≤ s.size := by assumption
    have h3 : (decide (p.size ≤ s.size) && ((s.extract 0 p.size).toList == p.toList)) = false := by simp [h1]
    go_ret2
    refine ⟨?_, rfl⟩
    rw [Lib.trimPrefix_miss s p h3, ← Lib.hasPrefix_raw, h3]
    rfl

set_option maxHeartbeats 1000000 in
theorem strings_CutSuffix (s p : ByteArray) (w : World) (hs : s.size ≤ 9223372036854775807) :
    Calls Try.prog 23 #[.string s, .string p] w fun e w' => e = .returned (.tuple #[.string ⟨(Lib.trimSuffix s.data.toList p.data.toList).toArray⟩, .bool (Lib.hasSuffix s.data.toList p.data.toList)]) ∧ w' = w := by
  have hlo : p.size ≤ s.size → ((s.size : Int) - (p.size : Int) + 9223372036854775808) % 18446744073709551616 - 9223372036854775808 = ((s.size - p.size : Nat) : Int) := fun _ => by omega
  go_enter Try.func23, Try.ntmps23
  go_wp2
  · have h2 : (!((s.extract (s.size - p.size) s.size).toList == p.toList)) = true := by assumption
    have h3 : (decide (p.size ≤ s.size) && ((s.extract (s.size - p.size) s.size).toList == p.toList)) = false := by
      have : ((s.extract (s.size - p.size) s.size).toList == p.toList) = false := by simpa using h2
      rw [this]
      simp
    go_ret2
    refine ⟨?_, rfl⟩
    rw [Lib.trimSuffix_miss s p h3, ← Lib.hasSuffix_raw, h3]
    rfl
  · have h1 : p.size ≤ s.size := by assumption
    have h2 : (!((s.extract (s.size - p.size) s.size).toList == p.toList)) = false := by assumption
    have h2' : ((s.extract (s.size - p.size) s.size).toList == p.toList) = true := by simpa using h2
    go_ret2
    refine ⟨?_, rfl⟩
    rw [Lib.trimSuffix_hit s p h1 h2', ← Lib.hasSuffix_raw, h2', decide_eq_true h1]
    rfl
  · have h1 : ¬ p.size ≤ s.size := by assumption
    have h3 : (decide (p.size ≤ s.size) && ((s.extract (s.size - p.size) s.size).toList == p.toList)) = false := by simp [h1]
    go_ret2
    refine ⟨?_, rfl⟩
    rw [Lib.trimSuffix_miss s p h3, ← Lib.hasSuffix_raw, h3]
    rfl

end Go.Proofs.Qxb6601761a
