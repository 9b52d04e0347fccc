/-
  zzCompareBytes (13) on two strings of one length; (Seat).Valid (12); the bytes' bound (11).
-/
import Derived.Test.Qxb6601761aModel
import Derived.Deep.QuietTactic
import Derived.BigQuiet
import Derived.LoopTactic
namespace Go.Proofs.Qxb6601761a
open Go.RowKit

/-- The byte at place i, as a number. -/
def at' (s : ByteArray) (i : Nat) : Int := ((s.data.toList.getD i 0).toNat : Int)
theorem at_eq (s : ByteArray) (k : Nat) (h : k < s.size) : (s[k].toNat : Int) = at' s k := by
  unfold at'
  have h' : k < s.data.toList.length := by rw [Array.length_toList]; exact h
  rw [List.getD_eq_getElem?_getD, List.getElem?_eq_getElem h']
  rfl

/-- How two strings of one length stand to each other. -/
def Cmp (a b : ByteArray) (c : Int) : Prop :=
  (c = -1 ∧ ∃ k, k < a.size ∧ (∀ j, j < k → at' a j = at' b j) ∧ at' a k < at' b k) ∨
  (c = 1 ∧ ∃ k, k < a.size ∧ (∀ j, j < k → at' a j = at' b j) ∧ at' b k < at' a k) ∨
  (c = 0 ∧ ∀ j, j < a.size → at' a j = at' b j)
def CPost (a b : ByteArray) (w : World) (e : Ending) (w' : World) : Prop := ∃ c : Int, e = .returned (.int .i64 c) ∧ Cmp a b c ∧ ∃ q, w' = w.drewN q

set_option maxHeartbeats 1000000 in
theorem compare_same (a b : ByteArray) (w : World) (hs : b.size = a.size) (hn : a.size ≤ 1048576) :
    Calls Try.prog 13 #[.string a, .string b] w (CPost a b w) := by
  have hs1 : a.size ≤ b.size := by omega
  have hs2 : b.size ≤ a.size := by omega
  have hd0 : decide (b.size < a.size) = false := decide_eq_false (by omega)
  have HS := hide hs
  clear hs
  go_enter Try.func13, Try.ntmps13
  go_wp2
  go_loopw [6] (fun i wr => ∃ k : Nat, k ≤ a.size ∧ i = .int .i64 k ∧ Hid (∀ j, j < k → at' a j = at' b j) ∧ Hid (∃ q, wr = w.drewN q)) (fun i _ => a.size - (intOf i).toNat)
  case atStart => exact ⟨0, Nat.zero_le _, rfl, fun j h => by omega, 0, rfl⟩
  case round =>
    obtain ⟨k, hk, rfl, hall, hq⟩ := hrel
    by_cases hlt : k < a.size
    · have hlb : k < b.size := by omega
      have hkz : (k : Int) < (a.size : Int) := by omega
      have hkzb : (k : Int) < (b.size : Int) := by omega
      have hk0 : (0 : Int) ≤ (k : Int) := by omega
      rcases Int.lt_trichotomy (a[k].toNat : Int) (b[k].toNat : Int) with h | h | h
      · have HL : Hid (at' a k < at' b k) := by rw [← at_eq a k hlt, ← at_eq b k hlb]; exact h
        go_wp2
        go_quiet (fail)
        go_wp2
        go_ret
        refine ⟨-1, rfl, .inl ⟨rfl, k, hlt, hall.out, HL.out⟩, ?_⟩
        obtain ⟨q, hq⟩ := hq.out
        exact ⟨q + nq, by rw [hq, World.drewN_drewN]⟩
      · have HL : Hid (at' a k = at' b k) := by rw [← at_eq a k hlt, ← at_eq b k hlb]; exact h
        have h1 : ¬ (a[k].toNat : Int) < (b[k].toNat : Int) := by omega
        have h2 : ¬ (b[k].toNat : Int) < (a[k].toNat : Int) := by omega
        clear h
        go_wp2
        go_quiet (fail)
        go_wp2
        go_quiet (fail)
        go_wp2
        go_roundw
        case rel =>
          refine ⟨k + 1, by omega, by go_num, fun j hj => ?_, ?_⟩
          · by_cases e : j = k
            · subst e; exact HL.out
            · exact hall.out j (by omega)
          · obtain ⟨q, hq⟩ := hq.out
            rw [hq]; simp only [World.drewN_drewN]; exact ⟨_, rfl⟩
        case measure => simp [intOf]; omega
      · have HL : Hid (at' b k < at' a k) := by rw [← at_eq a k hlt, ← at_eq b k hlb]; exact h
        have h1 : ¬ (a[k].toNat : Int) < (b[k].toNat : Int) := by omega
        go_wp2
        go_quiet (fail)
        go_wp2
        go_quiet (fail)
        go_wp2
        go_ret
        refine ⟨1, rfl, .inr (.inl ⟨rfl, k, hlt, hall.out, HL.out⟩), ?_⟩
        obtain ⟨q, hq⟩ := hq.out
        rw [hq]; simp only [World.drewN_drewN]; exact ⟨_, rfl⟩
    · go_wp2
      go_ret
      exact ⟨0, rfl, .inr (.inr ⟨rfl, fun j hj => hall.out j (by omega)⟩), hq.out⟩

theorem valid_yes (n : Int) (w : World) (h1 : 1 ≤ n) (h2 : n ≤ 99) : Calls Try.prog 12 #[.int .i64 n] w fun e w' => e = .returned (.bool true) ∧ w' = w := by
  go_enter Try.func12, Try.ntmps12
  go_wp2
  go_ret
  exact ⟨rfl, rfl⟩

end Go.Proofs.Qxb6601761a
