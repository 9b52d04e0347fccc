/-
  zzBytes_FnNamesOnlyByNameSet (16): true only where no length passes 1<<20.
-/
import Derived.Test.Qxb6601879aBytes
namespace Go.Proofs.Qxb6601879a
open Go.RowKit

set_option maxRecDepth 100000 in
set_option maxHeartbeats 4000000 in
theorem bytes16_any (s : ByteArray) (a0 a1 a2 a3 a4 a5 a6 a7 a8 a9 a10 : Option Addr) (n0 n1 n2 n3 n4 n5 n6 n7 n8 n9 n10 c0 c1 c2 c3 c4 c5 c6 c7 c8 c9 c10 : Nat) (S : Nat → ByteArray) (A A' : Nat → Option Addr) (L C L' C' : Nat → Nat) (w : World)
    (hS : Arr w a0 n0 (fun i => .string (S i))) (hA : Arr w a5 n5 (fun i => .slice (A i) (L i) (C i))) (hA' : Arr w a10 n10 (fun i => .slice (A' i) (L' i) (C' i))) :
    Calls Try.prog 16 #[.string s, .slice a0 n0 c0, .slice a1 n1 c1, .slice a2 n2 c2, .slice a3 n3 c3, .slice a4 n4 c4, .slice a5 n5 c5, .slice a6 n6 c6, .slice a7 n7 c7, .slice a8 n8 c8, .slice a9 n9 c9, .slice a10 n10 c10] w
      (BPost (Small n0 n1 n2 n3 n4 n5 L ∧ Small n0 n6 n7 n8 n9 n10 L') w) := by
  obtain ⟨b, o, ha, hc⟩ := hS
  have HA := hide ha
  have HC := hide hc
  obtain ⟨b', o', ha', hc'⟩ := hA
  have HA' := hide ha'
  have HC' := hide hc'
  obtain ⟨b2, o2, ha2, hc2⟩ := hA'
  have HA2 := hide ha2
  have HC2 := hide hc2
  clear ha hc ha' hc' ha2 hc2
  by_cases hs : 1048576 < s.size
  · go_enter Try.func16, Try.ntmps16
    go_wp2
    go_ret
    exact bp_no
  by_cases hsum : 1048576 < s.size + n0
  · go_enter Try.func16, Try.ntmps16
    go_wp2
    all_goals (go_ret; exact bp_no)
  go_enter Try.func16, Try.ntmps16
  go_wp2
  go_loop [25, 26] (fun t i => ∃ (k : Nat) (u : Int), k ≤ n0 ∧ i = .int .i64 k ∧ t = .int .i64 u ∧ 0 ≤ u ∧ u ≤ 1048576) (fun _ i => n0 - (intOf i).toNat)
  case atStart => exact ⟨0, _, Nat.zero_le _, rfl, rfl, by omega, by omega⟩
  case round =>
    obtain ⟨k, u, hk, rfl, rfl, hu0, hu1⟩ := hrel
    by_cases hlt : k < n0
    · obtain rfl := HA.out (by omega)
      have g0 := HC.out k hlt
      by_cases hbig : 1048576 < (S k).size
      · go_wp2
        go_ret
        exact bp_no
      by_cases hbig2 : 1048576 < u + (S k).size
      · go_wp2
        go_ret
        exact bp_no
      go_wp2
      go_round
      case rel => exact ⟨k + 1, _, by omega, by go_num, rfl, by omega, by omega⟩
      case measure => simp [intOf]; omega
    · by_cases htot : 1048576 < u + n1 + n2 + n3 + n4 + n5
      · clear hs hsum
        go_wp2
        all_goals (go_ret; exact bp_no)
      go_wp2
      go_loop [25, 27] (fun t i => ∃ (k : Nat) (u : Int), k ≤ n5 ∧ i = .int .i64 k ∧ t = .int .i64 u ∧ 0 ≤ u ∧ u ≤ 1048576 ∧ Hid (∀ i, i < k → L i ≤ 1048576)) (fun _ i => n5 - (intOf i).toNat)
      case atStart => exact ⟨0, _, Nat.zero_le _, rfl, rfl, by omega, by omega, fun i h => by omega⟩
      case round =>
        obtain ⟨k, v, hk5, rfl, rfl, hv0, hv1, hall⟩ := hrel
        by_cases hlt5 : k < n5
        · obtain rfl := HA'.out (by omega)
          have g0 := HC'.out k hlt5
          by_cases hbig : 1048576 < L k
          · go_wp2
            go_ret
            exact bp_no
          by_cases hbig2 : 1048576 < v + L k
          · go_wp2
            go_ret
            exact bp_no
          go_wp2
          go_round
          case rel =>
            refine ⟨k + 1, _, by omega, by go_num, rfl, by omega, by omega, fun i h => ?_⟩
            by_cases e : i = k
            · subst e; omega
            · exact hall.out i (by omega)
          case measure => simp [intOf]; omega
        · have HALL : Hid (Small n0 n1 n2 n3 n4 n5 L) := ⟨by omega, by omega, by omega, by omega, by omega, by omega, fun i h => hall.out i (by omega)⟩
          by_cases htot2 : 1048576 < v + n6 + n7 + n8 + n9 + n10
          · clear hs hsum htot hall
            go_wp2
            all_goals (go_ret; exact bp_no)
          go_wp2
          go_loop [25, 28] (fun t i => ∃ (k : Nat) (u : Int), k ≤ n10 ∧ i = .int .i64 k ∧ t = .int .i64 u ∧ 0 ≤ u ∧ u ≤ 1048576 ∧ Hid (∀ i, i < k → L' i ≤ 1048576)) (fun _ i => n10 - (intOf i).toNat)
          case atStart => exact ⟨0, _, Nat.zero_le _, rfl, rfl, by omega, by omega, fun i h => by omega⟩
          case round =>
            obtain ⟨j, x, hk10, rfl, rfl, hx0, hx1, hall2⟩ := hrel
            by_cases hlt10 : j < n10
            · obtain rfl := HA2.out (by omega)
              have g0 := HC2.out j hlt10
              by_cases hbig : 1048576 < L' j
              · go_wp2
                go_ret
                exact bp_no
              by_cases hbig2 : 1048576 < x + L' j
              · go_wp2
                go_ret
                exact bp_no
              go_wp2
              go_round
              case rel =>
                refine ⟨j + 1, _, by omega, by go_num, rfl, by omega, by omega, fun i h => ?_⟩
                by_cases e : i = j
                · subst e; omega
                · exact hall2.out i (by omega)
              case measure => simp [intOf]; omega
            · go_wp2
              go_ret
              exact ⟨true, rfl, fun _ => ⟨HALL.out, by omega, by omega, by omega, by omega, by omega, by omega, fun i h => hall2.out i (by omega)⟩, rfl⟩

end Go.Proofs.Qxb6601879a
