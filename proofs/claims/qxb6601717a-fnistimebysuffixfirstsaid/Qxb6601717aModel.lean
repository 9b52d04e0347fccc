/-
  zzb1TimeModel (15).
-/
import Derived.Test.Qxb6601717aIsTime
namespace Go.Proofs.Qxb6601717a
open Go.RowKit

set_option maxRecDepth 100000 in
theorem model_nil (f : Nat → Int) (w : World) :
    Calls Try.prog 15 #[.slice none 0 0] w (IPost f 0 w) := by
  go_enter Try.func15, Try.ntmps15
  go_wp2
  go_ret
  exact ip_no (q := 0) (fun h => by have := P.T_long h; omega) rfl

set_option maxRecDepth 100000 in
theorem model_short (g n : Nat) (f : Nat → Int) (w : World) (hn : n < 20) :
    Calls Try.prog 15 #[.slice (some ⟨g, 0, none⟩) n n] w (IPost f n w) := by
  go_enter Try.func15, Try.ntmps15
  go_wp2
  go_ret
  exact ip_no (q := 0) (fun h => by have := P.T_long h; omega) rfl

theorem md_no {f : Nat → Int} {n z k : Nat} (h : P.Md f n z) (h0 : n - z - 19 ≠ 0) (h1 : 20 ≤ k) (h2 : k < n - z) (hd : P.dig (f k) = false) : False := by
  rcases h with h | ⟨_, _, _, h⟩
  · exact h0 h
  · have := h k h1 h2
    rw [hd] at this
    exact Bool.false_ne_true this
theorem md_len {f : Nat → Int} {n z : Nat} (h : P.Md f n z) (h0 : n - z - 19 ≠ 0) (hm : ¬ (2 ≤ n - z - 19 ∧ n - z - 19 ≤ 10)) : False := by
  rcases h with h | ⟨a, b, _, _⟩
  · exact h0 h
  · exact hm ⟨a, b⟩
theorem md_dot {f : Nat → Int} {n z : Nat} (h : P.Md f n z) (h0 : n - z - 19 ≠ 0) (hm : f 19 ≠ 46) : False := by
  rcases h with h | ⟨_, _, c, _⟩
  · exact h0 h
  · exact hm c

set_option maxRecDepth 100000 in
set_option maxHeartbeats 2000000 in
theorem model_Z (g n : Nat) (f : Nat → Int) (w : World) (hn : 20 ≤ n) (hn2 : n ≤ 1048576) (hf : ∀ i, 0 ≤ f i ∧ f i ≤ 255)
    (hc : ∀ i, i < n → w.cell? ⟨g, i, none⟩ = some (.int .u8 (f i))) (hZ : f (n - 1) = 90) :
    Calls Try.prog 15 #[.slice (some ⟨g, 0, none⟩) n n] w (IPost f n w) := by
  have HC := hide hc
  have HF := hide hf
  have HT := hide (P.T_tail (P.zone1 hZ) (by omega))
  have g0 : w.cell? ⟨g, n - 1, none⟩ = some (.int .u8 90) := by rw [← hZ]; exact hc (n - 1) (by omega)
  clear hc hf hZ
  go_enter Try.func15, Try.ntmps15
  go_wp2_with fail
  go_loop [5] (fun i => ∃ k : Nat, k ≤ 19 ∧ i = .int .i64 k ∧ Hid (∀ j, j < k → P.headAt j (f j) = true)) (fun i => 19 - (intOf i).toNat)
  case atStart => exact ⟨0, by omega, rfl, fun j h => by omega⟩
  case round =>
    obtain ⟨k, hk, rfl, hall⟩ := hrel
    by_cases hlt : k < 19
    · have g1 : w.cell? ⟨g, k, none⟩ = some (.int .u8 (f k)) := HC.out k (by omega)
      cases hh : P.headAt k (f k) with
      | true =>
        have HH := hide hh
        go_wp2_with (go_at_call 22; refine (dateByte_any k (f k) _ (HF.out k).1 (HF.out k).2 hlt).mono ?_; rintro e w' ⟨rfl, hw⟩; replace hw := hw.symm; subst hw)
        go_round
        case rel =>
          refine ⟨k + 1, by omega, by go_num, fun j h => ?_⟩
          by_cases e : j = k
          · subst e; exact HH.out
          · exact hall.out j (by omega)
        case measure => simp [intOf]; omega
      | false =>
        have HH := hide hh
        go_wp2_with (go_at_call 22; refine (dateByte_any k (f k) _ (HF.out k).1 (HF.out k).2 hlt).mono ?_; rintro e w' ⟨rfl, hw⟩; replace hw := hw.symm; subst hw)
        go_ret
        exact ip_no (q := 0) (fun h => by have := (HT.out.1 h).1 k hlt; rw [HH.out] at this; exact Bool.false_ne_true this) rfl
    · obtain rfl : k = 19 := by omega
      by_cases hm : n - 1 ≤ 19
      · have hm0 : ((n : Int) - 1 - 19 == 0) = true := by simp; omega
        go_wp2_with fail
        go_ret
        exact ip_yes (q := 0) (HT.out.2 ⟨hall.out, .inl (by omega)⟩) rfl
      have hm0 : ((n : Int) - 1 - 19 == 0) = false := by simp; omega
      have g1 : w.cell? ⟨g, 19, none⟩ = some (.int .u8 (f 19)) := HC.out 19 (by omega)
      by_cases hd : f 19 = 46
      · have HD := hide hd
        have hd' : (f 19 != 46) = false := by simp [hd]
        clear hd
        by_cases hmm : 2 ≤ n - 1 - 19 ∧ n - 1 - 19 ≤ 10
        · obtain ⟨hma, hmb⟩ := hmm
          go_wp2_with fail
          go_loop [7] (fun i => ∃ k : Nat, 20 ≤ k ∧ k ≤ n - 1 ∧ i = .int .i64 k ∧ Hid (∀ j, 20 ≤ j → j < k → P.dig (f j) = true)) (fun i => n - (intOf i).toNat)
          case atStart => exact ⟨20, by omega, by omega, rfl, fun j h1 h2 => by omega⟩
          case round =>
            obtain ⟨k, hk1, hk2, rfl, hdig⟩ := hrel
            by_cases hlt2 : k < n - 1
            · have g2 : w.cell? ⟨g, k, none⟩ = some (.int .u8 (f k)) := HC.out k (by omega)
              cases hh : P.dig (f k) with
              | true =>
                have HH := hide hh
                go_wp2_with (go_at_call 17; refine (zzDigit_any (f k) _ (HF.out k).1 (HF.out k).2).mono ?_; rintro e w' ⟨rfl, hw⟩; replace hw := hw.symm; subst hw)
                go_round
                case rel =>
                  refine ⟨k + 1, by omega, by omega, by go_num, fun j h1 h2 => ?_⟩
                  by_cases e : j = k
                  · subst e; exact HH.out
                  · exact hdig.out j h1 (by omega)
                case measure => simp [intOf]; omega
              | false =>
                have HH := hide hh
                go_wp2_with (go_at_call 17; refine (zzDigit_any (f k) _ (HF.out k).1 (HF.out k).2).mono ?_; rintro e w' ⟨rfl, hw⟩; replace hw := hw.symm; subst hw)
                go_ret
                exact ip_no (q := 0) (fun h => md_no (HT.out.1 h).2 (by omega) hk1 hlt2 HH.out) rfl
            · go_wp2_with fail
              go_ret
              exact ip_yes (q := 0) (HT.out.2 ⟨hall.out, .inr ⟨hma, hmb, HD.out, fun i h1 h2 => hdig.out i h1 (by omega)⟩⟩) rfl
        · have HM := hide hmm
          by_cases hm2 : n - 1 - 19 < 2
          · clear hmm
            go_wp2_with fail
            go_ret
            exact ip_no (q := 0) (fun h => md_len (HT.out.1 h).2 (by omega) HM.out) rfl
          · have hm3 : 10 < n - 1 - 19 := by omega
            clear hmm
            go_wp2_with fail
            go_ret
            exact ip_no (q := 0) (fun h => md_len (HT.out.1 h).2 (by omega) HM.out) rfl
      · have HD := hide hd
        have hd' : (f 19 != 46) = true := by simp [hd]
        clear hd
        go_wp2_with fail
        go_ret
        exact ip_no (q := 0) (fun h => md_dot (HT.out.1 h).2 (by omega) HD.out) rfl

set_option maxRecDepth 100000 in
set_option maxHeartbeats 2000000 in
theorem model_24 (g n : Nat) (f : Nat → Int) (w : World) (hn : 20 ≤ n) (hn2 : n ≤ 1048576) (hf : ∀ i, 0 ≤ f i ∧ f i ≤ 255)
    (hc : ∀ i, i < n → w.cell? ⟨g, i, none⟩ = some (.int .u8 (f i))) (hZ : f (n - 1) ≠ 90) (h24 : n < 25) :
    Calls Try.prog 15 #[.slice (some ⟨g, 0, none⟩) n n] w (IPost f n w) := by
  have HC := hide hc
  have HF := hide hf
  have hz : (f (n - 1) == 90) = false := by simpa using hZ
  have g0 : w.cell? ⟨g, n - 1, none⟩ = some (.int .u8 (f (n - 1))) := hc (n - 1) (by omega)
  have HT := hide (P.T_none (n := n) hZ (fun h => by omega))
  clear hc hf hZ
  go_enter Try.func15, Try.ntmps15
  go_wp2_with fail
  go_ret
  exact ip_no (q := 0) HT.out rfl

set_option maxRecDepth 100000 in
set_option maxHeartbeats 2000000 in
theorem model_none (g n : Nat) (f : Nat → Int) (w : World) (hn : 25 ≤ n) (hn2 : n ≤ 1048576) (hf : ∀ i, 0 ≤ f i ∧ f i ≤ 255)
    (hc : ∀ i, i < n → w.cell? ⟨g, i, none⟩ = some (.int .u8 (f i))) (hZ : f (n - 1) ≠ 90) (h6 : ¬ P.Zone f (n - 6) 6) :
    Calls Try.prog 15 #[.slice (some ⟨g, 0, none⟩) n n] w (IPost f n w) := by
  have HC := hide hc
  have HF := hide hf
  have hz : (f (n - 1) == 90) = false := by simpa using hZ
  have g0 : w.cell? ⟨g, n - 1, none⟩ = some (.int .u8 (f (n - 1))) := hc (n - 1) (by omega)
  have g2 : w.cell? ⟨g, n - 2, none⟩ = some (.int .u8 (f (n - 2))) := hc (n - 2) (by omega)
  have g3 : w.cell? ⟨g, n - 3, none⟩ = some (.int .u8 (f (n - 3))) := hc (n - 3) (by omega)
  have g4 : w.cell? ⟨g, n - 4, none⟩ = some (.int .u8 (f (n - 4))) := hc (n - 4) (by omega)
  have g5 : w.cell? ⟨g, n - 5, none⟩ = some (.int .u8 (f (n - 5))) := hc (n - 5) (by omega)
  have g6 : w.cell? ⟨g, n - 6, none⟩ = some (.int .u8 (f (n - 6))) := hc (n - 6) (by omega)
  have HT := hide (P.T_none (n := n) hZ (fun h => h6 h.2))
  rw [P.zone6 hn] at h6
  clear hc hf hZ
  cases p43 : (f (n - 6) == 43) with
  | false =>
    cases p45 : (f (n - 6) == 45) with
    | false =>
      clear h6
      go_enter Try.func15, Try.ntmps15
      go_wp2_with fail
      go_ret
      exact ip_no (q := 0) HT.out rfl
    | true =>
      have q1 : f (n - 6) = 43 ∨ f (n - 6) = 45 := .inr (by simpa using p45)
      have HN : Hid (¬ (P.dig (f (n - 5)) = true ∧ P.dig (f (n - 4)) = true ∧ f (n - 3) = 58 ∧ P.dig (f (n - 2)) = true ∧ P.dig (f (n - 1)) = true)) := fun h => h6 ⟨q1, h⟩
      clear h6 q1
      cases d5 : P.dig (f (n - 5)) with
      | false =>
        go_enter Try.func15, Try.ntmps15
        go_wp2_with (go_at_call 17; refine (zzDigit_any _ _ (HF.out _).1 (HF.out _).2).mono ?_; rintro e w' ⟨rfl, hw⟩; replace hw := hw.symm; subst hw)
        go_ret
        exact ip_no (q := 0) HT.out rfl
      | true =>
      cases d4 : P.dig (f (n - 4)) with
      | false =>
        go_enter Try.func15, Try.ntmps15
        go_wp2_with (go_at_call 17; refine (zzDigit_any _ _ (HF.out _).1 (HF.out _).2).mono ?_; rintro e w' ⟨rfl, hw⟩; replace hw := hw.symm; subst hw)
        go_ret
        exact ip_no (q := 0) HT.out rfl
      | true =>
      cases d3 : (f (n - 3) == 58) with
      | false =>
        go_enter Try.func15, Try.ntmps15
        go_wp2_with (go_at_call 17; refine (zzDigit_any _ _ (HF.out _).1 (HF.out _).2).mono ?_; rintro e w' ⟨rfl, hw⟩; replace hw := hw.symm; subst hw)
        go_ret
        exact ip_no (q := 0) HT.out rfl
      | true =>
      cases d2 : P.dig (f (n - 2)) with
      | false =>
        go_enter Try.func15, Try.ntmps15
        go_wp2_with (go_at_call 17; refine (zzDigit_any _ _ (HF.out _).1 (HF.out _).2).mono ?_; rintro e w' ⟨rfl, hw⟩; replace hw := hw.symm; subst hw)
        go_ret
        exact ip_no (q := 0) HT.out rfl
      | true =>
      cases d1 : P.dig (f (n - 1)) with
      | false =>
        go_enter Try.func15, Try.ntmps15
        go_wp2_with (go_at_call 17; refine (zzDigit_any _ _ (HF.out _).1 (HF.out _).2).mono ?_; rintro e w' ⟨rfl, hw⟩; replace hw := hw.symm; subst hw)
        go_ret
        exact ip_no (q := 0) HT.out rfl
      | true => exact absurd ⟨d5, d4, by simpa using d3, d2, d1⟩ HN.out
  | true =>
    have q1 : f (n - 6) = 43 ∨ f (n - 6) = 45 := .inl (by simpa using p43)
    have HN : Hid (¬ (P.dig (f (n - 5)) = true ∧ P.dig (f (n - 4)) = true ∧ f (n - 3) = 58 ∧ P.dig (f (n - 2)) = true ∧ P.dig (f (n - 1)) = true)) := fun h => h6 ⟨q1, h⟩
    clear h6 q1
    cases d5 : P.dig (f (n - 5)) with
    | false =>
      go_enter Try.func15, Try.ntmps15
      go_wp2_with (go_at_call 17; refine (zzDigit_any _ _ (HF.out _).1 (HF.out _).2).mono ?_; rintro e w' ⟨rfl, hw⟩; replace hw := hw.symm; subst hw)
      go_ret
      exact ip_no (q := 0) HT.out rfl
    | true =>
    cases d4 : P.dig (f (n - 4)) with
    | false =>
      go_enter Try.func15, Try.ntmps15
      go_wp2_with (go_at_call 17; refine (zzDigit_any _ _ (HF.out _).1 (HF.out _).2).mono ?_; rintro e w' ⟨rfl, hw⟩; replace hw := hw.symm; subst hw)
      go_ret
      exact ip_no (q := 0) HT.out rfl
    | true =>
    cases d3 : (f (n - 3) == 58) with
    | false =>
      go_enter Try.func15, Try.ntmps15
      go_wp2_with (go_at_call 17; refine (zzDigit_any _ _ (HF.out _).1 (HF.out _).2).mono ?_; rintro e w' ⟨rfl, hw⟩; replace hw := hw.symm; subst hw)
      go_ret
      exact ip_no (q := 0) HT.out rfl
    | true =>
    cases d2 : P.dig (f (n - 2)) with
    | false =>
      go_enter Try.func15, Try.ntmps15
      go_wp2_with (go_at_call 17; refine (zzDigit_any _ _ (HF.out _).1 (HF.out _).2).mono ?_; rintro e w' ⟨rfl, hw⟩; replace hw := hw.symm; subst hw)
      go_ret
      exact ip_no (q := 0) HT.out rfl
    | true =>
    cases d1 : P.dig (f (n - 1)) with
    | false =>
      go_enter Try.func15, Try.ntmps15
      go_wp2_with (go_at_call 17; refine (zzDigit_any _ _ (HF.out _).1 (HF.out _).2).mono ?_; rintro e w' ⟨rfl, hw⟩; replace hw := hw.symm; subst hw)
      go_ret
      exact ip_no (q := 0) HT.out rfl
    | true => exact absurd ⟨d5, d4, by simpa using d3, d2, d1⟩ HN.out

set_option maxRecDepth 100000 in
set_option maxHeartbeats 2000000 in
theorem model_plus (g n : Nat) (f : Nat → Int) (w : World) (hn : 25 ≤ n) (hn2 : n ≤ 1048576) (hf : ∀ i, 0 ≤ f i ∧ f i ≤ 255)
    (hc : ∀ i, i < n → w.cell? ⟨g, i, none⟩ = some (.int .u8 (f i))) (hZ : f (n - 1) ≠ 90) (h6 : P.Zone f (n - 6) 6) (h4 : f (n - 6) = 43) :
    Calls Try.prog 15 #[.slice (some ⟨g, 0, none⟩) n n] w (IPost f n w) := by
  have HC := hide hc
  have HF := hide hf
  have hz : (f (n - 1) == 90) = false := by simpa using hZ
  have g0 : w.cell? ⟨g, n - 1, none⟩ = some (.int .u8 (f (n - 1))) := hc (n - 1) (by omega)
  have g2 : w.cell? ⟨g, n - 2, none⟩ = some (.int .u8 (f (n - 2))) := hc (n - 2) (by omega)
  have g3 : w.cell? ⟨g, n - 3, none⟩ = some (.int .u8 (f (n - 3))) := hc (n - 3) (by omega)
  have g4 : w.cell? ⟨g, n - 4, none⟩ = some (.int .u8 (f (n - 4))) := hc (n - 4) (by omega)
  have g5 : w.cell? ⟨g, n - 5, none⟩ = some (.int .u8 (f (n - 5))) := hc (n - 5) (by omega)
  have g6 : w.cell? ⟨g, n - 6, none⟩ = some (.int .u8 (f (n - 6))) := hc (n - 6) (by omega)
  have HT := hide (P.T_tail h6 (by omega))
  rw [P.zone6 hn] at h6
  obtain ⟨_, d5, d4, d3, d2, d1⟩ := h6
  have p3 : (f (n - 3) == 58) = true := by simpa using d3
  have p43 : (f (n - 6) == 43) = true := by simpa using h4
  clear hc hf hZ d3 h4
  go_enter Try.func15, Try.ntmps15
  go_wp2_with (go_at_call 17; refine (zzDigit_any _ _ (HF.out _).1 (HF.out _).2).mono ?_; rintro e w' ⟨rfl, hw⟩; replace hw := hw.symm; subst hw)
  clear g0 g2 g3 g4 g5 g6
  go_loop [5] (fun i => ∃ k : Nat, k ≤ 19 ∧ i = .int .i64 k ∧ Hid (∀ j, j < k → P.headAt j (f j) = true)) (fun i => 19 - (intOf i).toNat)
  case atStart => exact ⟨0, by omega, rfl, fun j h => by omega⟩
  case round =>
    obtain ⟨k, hk, rfl, hall⟩ := hrel
    by_cases hlt : k < 19
    · have g1 : w.cell? ⟨g, k, none⟩ = some (.int .u8 (f k)) := HC.out k (by omega)
      cases hh : P.headAt k (f k) with
      | true =>
        have HH := hide hh
        go_wp2_with (go_at_call 22; refine (dateByte_any k (f k) _ (HF.out k).1 (HF.out k).2 hlt).mono ?_; rintro e w' ⟨rfl, hw⟩; replace hw := hw.symm; subst hw)
        go_round
        case rel =>
          refine ⟨k + 1, by omega, by go_num, fun j h => ?_⟩
          by_cases e : j = k
          · subst e; exact HH.out
          · exact hall.out j (by omega)
        case measure => simp [intOf]; omega
      | false =>
        have HH := hide hh
        go_wp2_with (go_at_call 22; refine (dateByte_any k (f k) _ (HF.out k).1 (HF.out k).2 hlt).mono ?_; rintro e w' ⟨rfl, hw⟩; replace hw := hw.symm; subst hw)
        go_ret
        exact ip_no (q := 0) (fun h => by have := (HT.out.1 h).1 k hlt; rw [HH.out] at this; exact Bool.false_ne_true this) rfl
    · obtain rfl : k = 19 := by omega
      by_cases hm : n - 6 ≤ 19
      · have hm0 : ((n : Int) - 6 - 19 == 0) = true := by simp; omega
        go_wp2_with fail
        go_ret
        exact ip_yes (q := 0) (HT.out.2 ⟨hall.out, .inl (by omega)⟩) rfl
      have hm0 : ((n : Int) - 6 - 19 == 0) = false := by simp; omega
      have g1 : w.cell? ⟨g, 19, none⟩ = some (.int .u8 (f 19)) := HC.out 19 (by omega)
      by_cases hd : f 19 = 46
      · have HD := hide hd
        have hd' : (f 19 != 46) = false := by simp [hd]
        clear hd
        by_cases hmm : 2 ≤ n - 6 - 19 ∧ n - 6 - 19 ≤ 10
        · obtain ⟨hma, hmb⟩ := hmm
          go_wp2_with fail
          go_loop [7] (fun i => ∃ k : Nat, 20 ≤ k ∧ k ≤ n - 6 ∧ i = .int .i64 k ∧ Hid (∀ j, 20 ≤ j → j < k → P.dig (f j) = true)) (fun i => n - (intOf i).toNat)
          case atStart => exact ⟨20, by omega, by omega, rfl, fun j h1 h2 => by omega⟩
          case round =>
            obtain ⟨k, hk1, hk2, rfl, hdig⟩ := hrel
            by_cases hlt2 : k < n - 6
            · have g2 : w.cell? ⟨g, k, none⟩ = some (.int .u8 (f k)) := HC.out k (by omega)
              cases hh : P.dig (f k) with
              | true =>
                have HH := hide hh
                go_wp2_with (go_at_call 17; refine (zzDigit_any (f k) _ (HF.out k).1 (HF.out k).2).mono ?_; rintro e w' ⟨rfl, hw⟩; replace hw := hw.symm; subst hw)
                go_round
                case rel =>
                  refine ⟨k + 1, by omega, by omega, by go_num, fun j h1 h2 => ?_⟩
                  by_cases e : j = k
                  · subst e; exact HH.out
                  · exact hdig.out j h1 (by omega)
                case measure => simp [intOf]; omega
              | false =>
                have HH := hide hh
                go_wp2_with (go_at_call 17; refine (zzDigit_any (f k) _ (HF.out k).1 (HF.out k).2).mono ?_; rintro e w' ⟨rfl, hw⟩; replace hw := hw.symm; subst hw)
                go_ret
                exact ip_no (q := 0) (fun h => md_no (HT.out.1 h).2 (by omega) hk1 hlt2 HH.out) rfl
            · go_wp2_with fail
              go_ret
              exact ip_yes (q := 0) (HT.out.2 ⟨hall.out, .inr ⟨hma, hmb, HD.out, fun i h1 h2 => hdig.out i h1 (by omega)⟩⟩) rfl
        · have HM := hide hmm
          by_cases hm2 : n - 6 - 19 < 2
          · clear hmm
            go_wp2_with fail
            go_ret
            exact ip_no (q := 0) (fun h => md_len (HT.out.1 h).2 (by omega) HM.out) rfl
          · have hm3 : 10 < n - 6 - 19 := by omega
            clear hmm
            go_wp2_with fail
            go_ret
            exact ip_no (q := 0) (fun h => md_len (HT.out.1 h).2 (by omega) HM.out) rfl
      · have HD := hide hd
        have hd' : (f 19 != 46) = true := by simp [hd]
        clear hd
        go_wp2_with fail
        go_ret
        exact ip_no (q := 0) (fun h => md_dot (HT.out.1 h).2 (by omega) HD.out) rfl

set_option maxRecDepth 100000 in
set_option maxHeartbeats 2000000 in
theorem model_minus (g n : Nat) (f : Nat → Int) (w : World) (hn : 25 ≤ n) (hn2 : n ≤ 1048576) (hf : ∀ i, 0 ≤ f i ∧ f i ≤ 255)
    (hc : ∀ i, i < n → w.cell? ⟨g, i, none⟩ = some (.int .u8 (f i))) (hZ : f (n - 1) ≠ 90) (h6 : P.Zone f (n - 6) 6) (h4 : f (n - 6) = 45) :
    Calls Try.prog 15 #[.slice (some ⟨g, 0, none⟩) n n] w (IPost f n w) := by
  have HC := hide hc
  have HF := hide hf
  have hz : (f (n - 1) == 90) = false := by simpa using hZ
  have g0 : w.cell? ⟨g, n - 1, none⟩ = some (.int .u8 (f (n - 1))) := hc (n - 1) (by omega)
  have g2 : w.cell? ⟨g, n - 2, none⟩ = some (.int .u8 (f (n - 2))) := hc (n - 2) (by omega)
  have g3 : w.cell? ⟨g, n - 3, none⟩ = some (.int .u8 (f (n - 3))) := hc (n - 3) (by omega)
  have g4 : w.cell? ⟨g, n - 4, none⟩ = some (.int .u8 (f (n - 4))) := hc (n - 4) (by omega)
  have g5 : w.cell? ⟨g, n - 5, none⟩ = some (.int .u8 (f (n - 5))) := hc (n - 5) (by omega)
  have g6 : w.cell? ⟨g, n - 6, none⟩ = some (.int .u8 (f (n - 6))) := hc (n - 6) (by omega)
  have HT := hide (P.T_tail h6 (by omega))
  rw [P.zone6 hn] at h6
  obtain ⟨_, d5, d4, d3, d2, d1⟩ := h6
  have p3 : (f (n - 3) == 58) = true := by simpa using d3
  have p43 : (f (n - 6) == 43) = false := by simp [h4]
  have p45 : (f (n - 6) == 45) = true := by simpa using h4
  clear hc hf hZ d3 h4
  go_enter Try.func15, Try.ntmps15
  go_wp2_with (go_at_call 17; refine (zzDigit_any _ _ (HF.out _).1 (HF.out _).2).mono ?_; rintro e w' ⟨rfl, hw⟩; replace hw := hw.symm; subst hw)
  clear g0 g2 g3 g4 g5 g6
  go_loop [5] (fun i => ∃ k : Nat, k ≤ 19 ∧ i = .int .i64 k ∧ Hid (∀ j, j < k → P.headAt j (f j) = true)) (fun i => 19 - (intOf i).toNat)
  case atStart => exact ⟨0, by omega, rfl, fun j h => by omega⟩
  case round =>
    obtain ⟨k, hk, rfl, hall⟩ := hrel
    by_cases hlt : k < 19
    · have g1 : w.cell? ⟨g, k, none⟩ = some (.int .u8 (f k)) := HC.out k (by omega)
      cases hh : P.headAt k (f k) with
      | true =>
        have HH := hide hh
        go_wp2_with (go_at_call 22; refine (dateByte_any k (f k) _ (HF.out k).1 (HF.out k).2 hlt).mono ?_; rintro e w' ⟨rfl, hw⟩; replace hw := hw.symm; subst hw)
        go_round
        case rel =>
          refine ⟨k + 1, by omega, by go_num, fun j h => ?_⟩
          by_cases e : j = k
          · subst e; exact HH.out
          · exact hall.out j (by omega)
        case measure => simp [intOf]; omega
      | false =>
        have HH := hide hh
        go_wp2_with (go_at_call 22; refine (dateByte_any k (f k) _ (HF.out k).1 (HF.out k).2 hlt).mono ?_; rintro e w' ⟨rfl, hw⟩; replace hw := hw.symm; subst hw)
        go_ret
        exact ip_no (q := 0) (fun h => by have := (HT.out.1 h).1 k hlt; rw [HH.out] at this; exact Bool.false_ne_true this) rfl
    · obtain rfl : k = 19 := by omega
      by_cases hm : n - 6 ≤ 19
      · have hm0 : ((n : Int) - 6 - 19 == 0) = true := by simp; omega
        go_wp2_with fail
        go_ret
        exact ip_yes (q := 0) (HT.out.2 ⟨hall.out, .inl (by omega)⟩) rfl
      have hm0 : ((n : Int) - 6 - 19 == 0) = false := by simp; omega
      have g1 : w.cell? ⟨g, 19, none⟩ = some (.int .u8 (f 19)) := HC.out 19 (by omega)
      by_cases hd : f 19 = 46
      · have HD := hide hd
        have hd' : (f 19 != 46) = false := by simp [hd]
        clear hd
        by_cases hmm : 2 ≤ n - 6 - 19 ∧ n - 6 - 19 ≤ 10
        · obtain ⟨hma, hmb⟩ := hmm
          go_wp2_with fail
          go_loop [7] (fun i => ∃ k : Nat, 20 ≤ k ∧ k ≤ n - 6 ∧ i = .int .i64 k ∧ Hid (∀ j, 20 ≤ j → j < k → P.dig (f j) = true)) (fun i => n - (intOf i).toNat)
          case atStart => exact ⟨20, by omega, by omega, rfl, fun j h1 h2 => by omega⟩
          case round =>
            obtain ⟨k, hk1, hk2, rfl, hdig⟩ := hrel
            by_cases hlt2 : k < n - 6
            · have g2 : w.cell? ⟨g, k, none⟩ = some (.int .u8 (f k)) := HC.out k (by omega)
              cases hh : P.dig (f k) with
              | true =>
                have HH := hide hh
                go_wp2_with (go_at_call 17; refine (zzDigit_any (f k) _ (HF.out k).1 (HF.out k).2).mono ?_; rintro e w' ⟨rfl, hw⟩; replace hw := hw.symm; subst hw)
                go_round
                case rel =>
                  refine ⟨k + 1, by omega, by omega, by go_num, fun j h1 h2 => ?_⟩
                  by_cases e : j = k
                  · subst e; exact HH.out
                  · exact hdig.out j h1 (by omega)
                case measure => simp [intOf]; omega
              | false =>
                have HH := hide hh
                go_wp2_with (go_at_call 17; refine (zzDigit_any (f k) _ (HF.out k).1 (HF.out k).2).mono ?_; rintro e w' ⟨rfl, hw⟩; replace hw := hw.symm; subst hw)
                go_ret
                exact ip_no (q := 0) (fun h => md_no (HT.out.1 h).2 (by omega) hk1 hlt2 HH.out) rfl
            · go_wp2_with fail
              go_ret
              exact ip_yes (q := 0) (HT.out.2 ⟨hall.out, .inr ⟨hma, hmb, HD.out, fun i h1 h2 => hdig.out i h1 (by omega)⟩⟩) rfl
        · have HM := hide hmm
          by_cases hm2 : n - 6 - 19 < 2
          · clear hmm
            go_wp2_with fail
            go_ret
            exact ip_no (q := 0) (fun h => md_len (HT.out.1 h).2 (by omega) HM.out) rfl
          · have hm3 : 10 < n - 6 - 19 := by omega
            clear hmm
            go_wp2_with fail
            go_ret
            exact ip_no (q := 0) (fun h => md_len (HT.out.1 h).2 (by omega) HM.out) rfl
      · have HD := hide hd
        have hd' : (f 19 != 46) = true := by simp [hd]
        clear hd
        go_wp2_with fail
        go_ret
        exact ip_no (q := 0) (fun h => md_dot (HT.out.1 h).2 (by omega) HD.out) rfl


theorem model_any (g n : Nat) (f : Nat → Int) (w : World) (hn2 : n ≤ 1048576) (hf : ∀ i, 0 ≤ f i ∧ f i ≤ 255)
    (hc : ∀ i, i < n → w.cell? ⟨g, i, none⟩ = some (.int .u8 (f i))) :
    Calls Try.prog 15 #[.slice (some ⟨g, 0, none⟩) n n] w (IPost f n w) := by
  by_cases h20 : n < 20
  · exact model_short g n f w h20
  by_cases hZ : f (n - 1) = 90
  · exact model_Z g n f w (by omega) hn2 hf hc hZ
  by_cases h25 : n < 25
  · exact model_24 g n f w (by omega) hn2 hf hc hZ h25
  by_cases h6 : P.Zone f (n - 6) 6
  · rcases ((P.zone6 (by omega)).1 h6).1 with h | h
    · exact model_plus g n f w (by omega) hn2 hf hc hZ h6 h
    · exact model_minus g n f w (by omega) hn2 hf hc hZ h6 h
  · exact model_none g n f w (by omega) hn2 hf hc hZ h6

end Go.Proofs.Qxb6601717a
