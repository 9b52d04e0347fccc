/-
  matches (20): the bytes fit the pattern, place by place.
-/
import Derived.Test.Qxb6601717aClone
import Derived.Deep.QuietTactic
import Derived.BigQuiet
namespace Go.Proofs.Qxb6601717a
open Go.RowKit

/-- What the loop knows behind k rounds; what it says when it goes on or ends. -/
def MI (f : Nat → Int) (s : ByteArray) (k : Nat) : Prop := ∀ j (h : j < s.size), j < k → P.okAt (f j) (s[j].toNat : Int) = true
theorem mi_step {f : Nat → Int} {s : ByteArray} {k : Nat} (hI : MI f s k) (hk : k < s.size) (h : P.okAt (f k) (s[k].toNat : Int) = true) : MI f s (k + 1) := by
  intro j hj hlt
  by_cases e : j = k
  · subst e; exact h
  · exact hI j hj (by omega)
theorem mi_no {f : Nat → Int} {s : ByteArray} {k : Nat} (hk : k < s.size) (h : P.okAt (f k) (s[k].toNat : Int) = false) :
    (false = true ↔ ∀ i (h : i < s.size), P.okAt (f i) (s[i].toNat : Int) = true) :=
  ⟨fun e => (Bool.false_ne_true e).elim, fun e => by have := e k hk; rw [h] at this; exact this⟩
theorem mi_yes {f : Nat → Int} {s : ByteArray} {k : Nat} (hI : MI f s k) (hk : s.size ≤ k) :
    (true = true ↔ ∀ i (h : i < s.size), P.okAt (f i) (s[i].toNat : Int) = true) :=
  ⟨fun _ i h => hI i h (by omega), fun _ => rfl⟩
theorem okAt_d {c p : Int} (h : (p == 100) = true) : P.okAt c p = P.dig c := by simp at h; simp [P.okAt, h]
theorem okAt_n {c p : Int} (h : (p == 100) = false) : P.okAt c p = (c == p) := by simp at h; simp [P.okAt, h]

/-- What 'matches' comes to: its answer says whether every byte fits; it has drawn, and turned nothing. -/
def MPost (f : Nat → Int) (s : ByteArray) (w : World) (e : Ending) (w' : World) : Prop :=
  ∃ r : Bool, e = .returned (.bool r) ∧ (r = true ↔ ∀ i (h : i < s.size), P.okAt (f i) (s[i].toNat : Int) = true) ∧ ∃ q, w' = w.drewN q

set_option maxHeartbeats 1000000 in
theorem matches_any (g o n cap : Nat) (f : Nat → Int) (s : ByteArray) (w : World) (hs : s.size = n) (hn : n ≤ 1048576)
    (hc : ∀ i, i < n → w.cell? ⟨g, o + i, none⟩ = some (.int .u8 (f i))) :
    Calls Try.prog 20 #[.slice (some ⟨g, o, none⟩) n cap, .string s] w (MPost f s w) := by
  subst hs
  go_enter Try.func20, Try.ntmps20
  go_wp2
  go_loopw [13] (fun i wr => ∃ k : Nat, k ≤ s.size ∧ i = .int .i64 k ∧ MI f s k ∧ ∃ q, wr = w.drewN q) (fun i _ => s.size - (intOf i).toNat)
  case atStart => exact ⟨0, Nat.zero_le _, rfl, fun j _ h => absurd h (by omega), 0, rfl⟩
  case round =>
    obtain ⟨k, hk, rfl, hall, q, hq⟩ := hrel
    by_cases hlt : k < s.size
    · have g0 : wr.cell? ⟨g, o + k, none⟩ = some (.int .u8 (f k)) := by rw [hq]; simpa using hc k hlt
      have HQ := hide hq
      clear hq
      have hkz : (k : Int) < (s.size : Int) := by omega
      have hk0 : (0 : Int) ≤ (k : Int) := by omega
      have HC := hide hc
      clear hc
      cases hp : ((s[k].toNat : Int) == 100) with
      | true =>
        have hp' : ((s[k].toNat : Int) != 100) = false := by rw [bne, hp]; rfl
        cases hd : P.dig (f k) with
        | true =>
          have HS := hide (mi_step hall hlt ((okAt_d hp).trans hd))
          clear hall
          go_wp2
          go_quiet ((go_at_call 23; exact Calls.quiet_of_same (isDigit_any _ _)))
          go_wp2
          go_roundw
          case rel => exact ⟨k + 1, by omega, by go_num, HS.out, q + nq, by rw [HQ.out, World.drewN_drewN]⟩
          case measure => simp [intOf]; omega
        | false =>
          have HS := hide (mi_no hlt ((okAt_d hp).trans hd))
          clear hall
          go_wp2
          go_quiet ((go_at_call 23; exact Calls.quiet_of_same (isDigit_any _ _)))
          go_wp2
          go_ret
          exact ⟨false, rfl, HS.out, q + nq, by rw [HQ.out, World.drewN_drewN]⟩
      | false =>
        have hp' : ((s[k].toNat : Int) != 100) = true := by rw [bne, hp]; rfl
        cases hd : (f k == (s[k].toNat : Int)) with
        | true =>
          have hd' : (f k != (s[k].toNat : Int)) = false := by rw [bne, hd]; rfl
          have HS := hide (mi_step hall hlt ((okAt_n hp).trans hd))
          clear hall hd
          go_wp2
          go_quiet (fail)
          go_wp2
          go_roundw
          case rel => exact ⟨k + 1, by omega, by go_num, HS.out, q + nq, by rw [HQ.out, World.drewN_drewN]⟩
          case measure => simp [intOf]; omega
        | false =>
          have hd' : (f k != (s[k].toNat : Int)) = true := by rw [bne, hd]; rfl
          have HS := hide (mi_no hlt ((okAt_n hp).trans hd))
          clear hall hd
          go_wp2
          go_quiet (fail)
          go_wp2
          go_ret
          exact ⟨false, rfl, HS.out, q + nq, by rw [HQ.out, World.drewN_drewN]⟩
    · go_wp2
      go_ret
      exact ⟨true, rfl, mi_yes hall (by omega), q, rfl⟩

end Go.Proofs.Qxb6601717a
