/-
  zzBytes_FnNamesInByteOrder (7): true only where no length passes 1<<20.
-/
import Derived.Test.Qxb6601879aBase
namespace Go.Proofs.Qxb6601879a
open Go.RowKit

/-- What a true answer says of the lengths. -/
structure Small (n0 n1 n2 n3 n4 n5 : Nat) (L : Nat → Nat) : Prop where
  h0 : n0 ≤ 1048576
  h1 : n1 ≤ 1048576
  h2 : n2 ≤ 1048576
  h3 : n3 ≤ 1048576
  h4 : n4 ≤ 1048576
  h5 : n5 ≤ 1048576
  hL : ∀ i, i < n5 → L i ≤ 1048576

set_option maxRecDepth 100000 in
set_option maxHeartbeats 2000000 in
theorem bytes7_any (s : ByteArray) (a0 a1 a2 a3 a4 a5 : Option Addr) (n0 n1 n2 n3 n4 n5 c0 c1 c2 c3 c4 c5 : Nat) (S : Nat → ByteArray) (A : Nat → Option Addr) (L C : Nat → Nat) (w : World)
    (hS : Arr w a0 n0 (fun i => .string (S i))) (hA : Arr w a5 n5 (fun i => .slice (A i) (L i) (C i))) :
    Calls Try.prog 7 #[.string s, .slice a0 n0 c0, .slice a1 n1 c1, .slice a2 n2 c2, .slice a3 n3 c3, .slice a4 n4 c4, .slice a5 n5 c5] w (BPost (Small n0 n1 n2 n3 n4 n5 L) w) := by
  obtain ⟨b, o, ha, hc⟩ := hS
  have HA := hide ha
  have HC := hide hc
  obtain ⟨b', o', ha', hc'⟩ := hA
  have HA' := hide ha'
  have HC' := hide hc'
  clear ha hc ha' hc'
  by_cases hs : 1048576 < s.size
  · go_enter Try.func7, Try.ntmps7
    go_wp2
    go_ret
    exact bp_no
  by_cases hn0 : 1048576 < n0
  · go_enter Try.func7, Try.ntmps7
    go_wp2
    all_goals (go_ret; exact bp_no)
  by_cases hsum : 1048576 < s.size + n0
  · go_enter Try.func7, Try.ntmps7
    go_wp2
    all_goals (go_ret; exact bp_no)
  go_enter Try.func7, Try.ntmps7
  go_wp2
  go_loop [15, 16] (fun t i => ∃ (k : Nat) (u : Int), k ≤ n0 ∧ i = .int .i64 k ∧ t = .int .i64 u ∧ 0 ≤ u ∧ u ≤ 1048576) (fun _ i => n0 - (intOf i).toNat)
  case atStart => exact ⟨0, _, Nat.zero_le _, rfl, rfl, by omega, by omega⟩
  case round =>
    obtain ⟨k, u, hk, rfl, rfl, hu0, hu1⟩ := hrel
    by_cases hlt : k < n0
    · obtain rfl := HA.out (by omega)
      have g0 := HC.out k hlt
      by_cases hbig : 1048576 < (S k).size
      · go_wp2
        go_ret
        exact bp_no
      by_cases hbig2 : 1048576 < u + (S k).size
      · go_wp2
        go_ret
        exact bp_no
      go_wp2
      go_round
      case rel => exact ⟨k + 1, _, by omega, by go_num, rfl, by omega, by omega⟩
      case measure => simp [intOf]; omega
    · clear hs hn0 hsum
      by_cases htot : 1048576 < u + n1 + n2 + n3 + n4 + n5
      · go_wp2
        all_goals (go_ret; exact bp_no)
      go_wp2
      go_loop [15, 17] (fun t i => ∃ (k : Nat) (u : Int), k ≤ n5 ∧ i = .int .i64 k ∧ t = .int .i64 u ∧ 0 ≤ u ∧ u ≤ 1048576 ∧ Hid (∀ i, i < k → L i ≤ 1048576)) (fun _ i => n5 - (intOf i).toNat)
      case atStart => exact ⟨0, _, Nat.zero_le _, rfl, rfl, by omega, by omega, fun i h => by omega⟩
      case round =>
        obtain ⟨k, v, hk5, rfl, rfl, hv0, hv1, hall⟩ := hrel
        by_cases hlt5 : k < n5
        · obtain rfl := HA'.out (by omega)
          have g0 := HC'.out k hlt5
          by_cases hbig : 1048576 < L k
          · go_wp2
            go_ret
            exact bp_no
          by_cases hbig2 : 1048576 < v + L k
          · go_wp2
            go_ret
            exact bp_no
          go_wp2
          go_round
          case rel =>
            refine ⟨k + 1, _, by omega, by go_num, rfl, by omega, by omega, fun i h => ?_⟩
            by_cases e : i = k
            · subst e; omega
            · exact hall.out i (by omega)
          case measure => simp [intOf]; omega
        · go_wp2
          go_ret
          exact ⟨true, rfl, fun _ => ⟨by omega, by omega, by omega, by omega, by omega, by omega, fun i h => hall.out i (by omega)⟩, rfl⟩

end Go.Proofs.Qxb6601879a
