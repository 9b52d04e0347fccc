/-
  FnNamesOnlyByNameSet (4): the walk.
-/
import Derived.Test.Qxb6601879aPlain
import Derived.Test.Qxb6601879aSizes
import Derived.Test.Qxb6601879aBytes2
import Derived.Test.Qxb6601879aOrder
namespace Go.Proofs.Qxb6601879a
open Go.RowKit

theorem Sum.since {w w' : World} {g : Nat} {root : ByteArray} {nm v : Value} {k : Nat} {xs : List Value} (h : Sum w g root nm v k xs) (hs : w.Since w.heap.size w') : Sum w' g root nm v k xs := by
  refine ⟨h.row.of_block (hs.block g h.row.lt), h.own.1, ?_⟩
  rcases h.own.2 with h2 | ⟨g', cap, cur, hv, hb, hh, r⟩
  · exact .inl h2
  · refine .inr ⟨g', cap, cur, hv, hb, ?_, r⟩
    rw [hs.block g' (lt_of_block hh)]
    exact hh
theorem nil_same {a a' : Option Addr} {G : List ByteArray} (h : a = none ↔ G = []) (h' : a' = none ↔ G = []) : (a.isNone == a'.isNone) = true := by
  by_cases e : G = []
  · rw [h.2 e, h'.2 e]; rfl
  · cases a with
    | none => exact absurd (h.1 rfl) e
    | some x =>
      cases a' with
      | none => exact absurd (h'.1 rfl) e
      | some y => rfl

set_option maxRecDepth 100000 in
set_option maxHeartbeats 4000000 in
theorem set_walk (root : ByteArray) (a0 a1 a2 a3 a4 a5 d1 d2 d3 d4 d5 : Option Addr) (n0 n1 n2 n3 n4 n5 m1 m2 m3 m4 m5 c0 c1 c2 c3 c4 c5 b1 b2 b3 b4 b5 : Nat) (S : Nat → ByteArray) (N U X N' U' X' : Nat → Int) (T T' : Nat → Bool)
    (A A' : Nat → Option Addr) (L C L' C' : Nat → Nat) (Z Z' : Nat → Nat → Int) (w : World)
    (e0 : a0 = none → n0 = 0 ∧ c0 = 0) (e5 : a5 = none → n5 = 0 ∧ c5 = 0) (e6 : d5 = none → m5 = 0 ∧ b5 = 0)
    (h0 : Arr w a0 n0 (fun i => .string (S i)))
    (h1 : Arr w a1 n1 (fun i => .int .i64 (N i))) (h2 : Arr w a2 n2 (fun i => .int .i64 (U i))) (h3 : Arr w a3 n3 (fun i => .int .i64 (X i))) (h4 : Arr w a4 n4 (fun i => .bool (T i)))
    (h5 : Arr w a5 n5 (fun i => .slice (A i) (L i) (C i))) (h6 : ∀ i, i < n5 → Arr w (A i) (L i) (fun j => .int .i64 (Z i j)))
    (g1 : Arr w d1 m1 (fun i => .int .i64 (N' i))) (g2 : Arr w d2 m2 (fun i => .int .i64 (U' i))) (g3 : Arr w d3 m3 (fun i => .int .i64 (X' i))) (g4 : Arr w d4 m4 (fun i => .bool (T' i)))
    (g5 : Arr w d5 m5 (fun i => .slice (A' i) (L' i) (C' i))) (g6 : ∀ i, i < m5 → Arr w (A' i) (L' i) (fun j => .int .i64 (Z' i j))) :
    Calls Try.prog 4 #[.string root, .slice a0 n0 c0, .slice a1 n1 c1, .slice a2 n2 c2, .slice a3 n3 c3, .slice a4 n4 c4, .slice a5 n5 c5, .slice d1 m1 b1, .slice d2 m2 b2, .slice d3 m3 b3, .slice d4 m4 b4, .slice d5 m5 b5] w (Done w) := by
  have E0 := hide e0
  have E5 := hide e5
  have E6 := hide e6
  have H0 := hide h0
  have H1 := hide h1
  have H2 := hide h2
  have H3 := hide h3
  have H4 := hide h4
  have H5 := hide h5
  have H6 := hide h6
  have G1 := hide g1
  have G2 := hide g2
  have G3 := hide g3
  have G4 := hide g4
  have G5 := hide g5
  have G6 := hide g6
  clear e0 e5 e6 h0 h1 h2 h3 h4 h5 h6 g1 g2 g3 g4 g5 g6
  go_enter Try.func4, Try.ntmps4
  go_wp2_with fail
  refine (bytes16_any root a0 a1 a2 a3 a4 a5 d1 d2 d3 d4 d5 n0 n1 n2 n3 n4 n5 m1 m2 m3 m4 m5 c0 c1 c2 c3 c4 c5 b1 b2 b3 b4 b5 S A A' L C L' C' w H0.out H5.out G5.out).mono ?_
  rintro e w' ⟨r, rfl, hr, hw⟩
  replace hw := hw.symm
  subst hw
  cases r with
  | false =>
    clear hr
    go_wp2_with fail
    go_ret
    exact done_of (World.Since.refl _ _)
  | true =>
  obtain ⟨hs1, hs2⟩ := hr rfl
  have HS1 := hide hs1
  have HS2 := hide hs2
  clear hr hs1 hs2
  go_wp2_with fail
  refine (namesBytes_any root a0 a1 a2 a3 a4 a5 n0 n1 n2 n3 n4 n5 c0 c1 c2 c3 c4 c5 S A L C w HS1.out.h0 HS1.out.h5 H0.out H5.out).mono ?_
  rintro e w' ⟨t0, rfl, hw⟩
  replace hw := hw.symm
  subst hw
  go_wp2_with fail
  refine (classBytes_any t0 d1 d2 d3 d4 d5 m1 m2 m3 m4 m5 b1 b2 b3 b4 b5 A' L' C' w HS2.out.h5 G5.out).mono ?_
  rintro e w' ⟨t, rfl, hw⟩
  replace hw := hw.symm
  subst hw
  by_cases ht : 1048576 < t
  · go_wp2_with fail
    go_ret
    exact done_of (World.Since.refl _ _)
  have ht' : decide (1048576 < t) = false := decide_eq_false ht
  clear ht
  go_wp2_with fail
  refine (domain_any a0 a1 a2 a3 a4 a5 n0 n1 n2 n3 n4 n5 c0 c1 c2 c3 c4 c5 N w HS1.out.h1 H1.out).mono ?_
  rintro e w' ⟨r, rfl, hr, hw⟩
  replace hw := hw.symm
  subst hw
  cases r with
  | false =>
    clear hr
    go_wp2_with fail
    go_ret
    exact done_of (World.Since.refl _ _)
  | true =>
  obtain ⟨q2, q3, q4, q5, hN⟩ := hr rfl
  clear hr
  subst q2 q3 q4 q5
  have HN := hide hN
  clear hN
  go_wp2_with fail
  refine (domain_any a0 d1 d2 d3 d4 d5 n0 m1 m2 m3 m4 m5 c0 b1 b2 b3 b4 b5 N' w HS2.out.h1 G1.out).mono ?_
  rintro e w' ⟨r, rfl, hr, hw⟩
  replace hw := hw.symm
  subst hw
  cases r with
  | false =>
    clear hr
    go_wp2_with fail
    go_ret
    exact done_of (World.Since.refl _ _)
  | true =>
  obtain ⟨q2, q3, q4, q5, hN⟩ := hr rfl
  clear hr
  subst q2 q3 q4 q5
  have HN' := hide hN
  clear hN
  have hn0 := HS1.out.h0
  have hn5 := HS1.out.h1
  have hm5 := HS2.out.h1
  go_wp2_with fail
  refine (marks_any a1 n0 n5 c1 N w hn0 hn5 HN.out H1.out).mono ?_
  rintro e w1 ⟨rfl, hM1, hS1⟩
  have KM1 := hide hM1
  have HB1 : Hid (w.Since w.heap.size w1) := hS1
  clear hM1 hS1
  go_wp2_with fail
  refine (marks_any d1 n0 m5 b1 N' w1 hn0 hm5 HN'.out (G1.out.since HB1.out)).mono ?_
  rintro e w2 ⟨rfl, hM2, hS2⟩
  have hlt1 : w.heap.size < w1.heap.size := World.rowIs.lt KM1.out
  have KC1 : Hid (∀ i, i < n0 → w2.cell? ⟨w.heap.size, i, none⟩ = some (.bool (mk N n5 i))) := fun i hi => by rw [hS2.cell (a := ⟨w.heap.size, i, none⟩) hlt1]; exact World.rowIs.cell KM1.out hi
  have KC2 : Hid (∀ i, i < n0 → w2.cell? ⟨w1.heap.size, i, none⟩ = some (.bool (mk N' m5 i))) := fun i hi => World.rowIs.cell hM2 hi
  have HB2 : Hid (w.Since w.heap.size w2) := HB1.out.trans (since_mono hS2 HB1.out.size)
  clear hM2 hS2 KM1 hlt1
  go_wp2_with fail
  -- THE LOOP: the two lists name the same places, or the law lets the input by
  go_loopw [28] (fun i wr => ∃ t : Nat, t ≤ n0 ∧ i = .int .i64 t ∧ Hid (∀ i, i < t → mk N n5 i = mk N' m5 i) ∧ Hid (∃ q, wr = w2.drewN q)) (fun i _ => n0 - (intOf i).toNat)
  case atStart => exact ⟨0, Nat.zero_le _, rfl, fun i h => by omega, 0, rfl⟩
  case round =>
    obtain ⟨t, ht, rfl, hall, q, hq⟩ := hrel
    have HQ := hide hq
    by_cases hlt : t < n0
    · have g0 : wr.cell? ⟨w.heap.size, t, none⟩ = some (.bool (mk N n5 t)) := by rw [hq]; exact KC1.out t hlt
      have g1 : wr.cell? ⟨w1.heap.size, t, none⟩ = some (.bool (mk N' m5 t)) := by rw [hq]; exact KC2.out t hlt
      clear hq
      have z0 : (0 : Int) ≤ (t : Int) := by omega
      have z1 : (t : Int) < (n0 : Int) := by omega
      cases hb : (mk N n5 t == mk N' m5 t) with
      | false =>
        go_wp2
        go_quiet (fail)
        go_wp2
        go_ret
        exact done_of (by rw [HQ.out]; exact since_drewN (since_drewN HB2.out _) _)
      | true =>
        have HE : Hid (mk N n5 t = mk N' m5 t) := eq_of_beq hb
        go_wp2
        go_quiet (fail)
        go_wp2
        go_roundw
        case rel =>
          refine ⟨t + 1, by omega, by go_num, fun i h => ?_, q + nq, by rw [HQ.out, World.drewN_drewN]⟩
          by_cases e : i = t
          · subst e; exact HE.out
          · exact hall.out i (by omega)
        case measure => simp [intOf]; omega
    · have HP := hide (picked_congr (S := S) (M := mk N n5) (M' := mk N' m5) (n := n0) (fun i hi => hall.out i (by omega)))
      have HB3 : Hid (w.Since w.heap.size wr) := by rw [hq]; exact since_drewN HB2.out _
      clear hq HQ KC1 KC2 HB1 HB2 hall
      go_wp2_with fail
      refine (cloneStrings_any a0 n0 c0 S wr E0.out hn0 (H0.out.since HB3.out)).mono ?_
      rintro e w3 ⟨a0', rfl, hA3, hS3⟩
      have HB4 : Hid (w.Since w.heap.size w3) := HB3.out.trans (since_mono hS3 HB3.out.size)
      have KN3 := hide hA3
      clear hA3 hS3 HB3
      go_wp2_with fail
      refine (cloneInts2_any a5 n5 c5 A L C Z w3 E5.out hn5 HS1.out.hL (H5.out.since HB4.out) (fun i hi => (H6.out i hi).since HB4.out)).mono ?_
      rintro e w4 ⟨a5', f, rfl, hA4, hS4⟩
      have HB5 : Hid (w.Since w.heap.size w4) := HB4.out.trans (since_mono hS4 HB4.out.size)
      have KN4 := hide (KN3.out.since hS4)
      have KA4 := hide hA4
      clear hA4 hS4 HB4 KN3
      go_wp2_with fail
      refine (cloneInts2_any d5 m5 b5 A' L' C' Z' w4 E6.out hm5 HS2.out.hL (G5.out.since HB5.out) (fun i hi => (G6.out i hi).since HB5.out)).mono ?_
      rintro e w5 ⟨d5', f', rfl, hA5, hS5⟩
      have HB6 : Hid (w.Since w.heap.size w5) := HB5.out.trans (since_mono hS5 HB5.out.size)
      have KN5 := hide (KN4.out.since hS5)
      have KA5 := hide (KA4.out.since hS5)
      have KD5 := hide hA5
      clear hA5 hS5 HB5 KN4 KA4
      go_wp2_with fail
      refine (build_any root a0' a1 a2 a3 a4 a5' n0 n5 n0 c1 c2 c3 c4 n5 N U X T f w5 hn5 (H1.out.since HB6.out) (H2.out.since HB6.out) (H3.out.since HB6.out) (H4.out.since HB6.out) KA5.out).mono ?_
      rintro e w6 ⟨v1, rfl, hSum1, hS6⟩
      have HB7 : Hid (w.Since w.heap.size w6) := HB6.out.trans (since_mono hS6 HB6.out.size)
      have KN6 := hide (KN5.out.since hS6)
      have KD6 := hide (KD5.out.since hS6)
      have KS6 := hide hSum1
      clear hSum1 hS6 HB6 KN5 KA5 KD5
      go_wp2_with fail
      refine (build_any root a0' d1 d2 d3 d4 d5' n0 m5 n0 b1 b2 b3 b4 m5 N' U' X' T' f' w6 hm5 (G1.out.since HB7.out) (G2.out.since HB7.out) (G3.out.since HB7.out) (G4.out.since HB7.out) KD6.out).mono ?_
      rintro e w7 ⟨v2, rfl, hSum2, hS7⟩
      have HB8 : Hid (w.Since w.heap.size w7) := HB7.out.trans (since_mono hS7 HB7.out.size)
      have KN7 := hide (KN6.out.since hS7)
      have KS7 := hide (KS6.out.since hS7)
      have KT7 := hide hSum2
      clear hSum2 hS7 HB7 KN6 KD6 KS6
      go_wp2_with fail
      refine (names_any w5.heap.size root a0' n0 n0 v1 n5 N U X T f S w7 hn0 hn5 HN.out KS7.out KN7.out).mono ?_
      rintro e w8 ⟨ag, cg, rfl, hG, hnil, hS8⟩
      have HB9 : Hid (w.Since w.heap.size w8) := HB8.out.trans (since_mono hS8 HB8.out.size)
      have KN8 := hide (KN7.out.since hS8)
      have KT8 := hide (KT7.out.since hS8)
      have KG8 := hide hG
      have KL1 := hide hnil
      clear hG hnil hS8 HB8 KN7 KS7 KT7
      go_wp2_with fail
      refine (names_any w6.heap.size root a0' n0 n0 v2 m5 N' U' X' T' f' S w8 hn0 hm5 HN'.out KT8.out KN8.out).mono ?_
      rintro e w9 ⟨ag', cg', rfl, hG, hnil, hS9⟩
      have HB10 : Hid (w.Since w.heap.size w9) := HB9.out.trans (since_mono hS9 HB9.out.size)
      rw [← HP.out] at hG hnil ⊢
      have KG9 := hide (KG8.out.since hS9)
      have KL2 := hide hnil
      have KH9 := hide hG
      have hm := picked_le S (mk N n5) n0
      clear hG hnil hS9 HB9 KN8 KT8 KG8 HP
      generalize picked S (mk N n5) n0 = G at *
      obtain ⟨m, hme⟩ : ∃ m, G.length = m := ⟨_, rfl⟩
      rw [hme] at hm KG9 KH9 ⊢
      obtain ⟨gf, hgf⟩ : ∃ gf : Nat → ByteArray, ∀ i, G.getD i ByteArray.empty = gf i := ⟨_, fun _ => rfl⟩
      have QG : Hid (Arr w9 ag m (fun i => .string (gf i))) := KG9.out.congr (fun i _ => by rw [hgf])
      have QH : Hid (Arr w9 ag' m (fun i => .string (gf i))) := KH9.out.congr (fun i _ => by rw [hgf])
      have hns := nil_same KL1.out KL2.out
      have hnl := fun (wx : World) (a : Option Addr) (n c n' c' : Nat) => Lib.run_eql_slice_nil (P := Try.prog) wx 22 9 a n c n' c' Try.underlying22
      clear KG9 KH9 hgf hme KL1 KL2
      go_wp2_with fail
      refine (same_any ag ag' m cg cg' gf w9 (by omega) QG.out QH.out).mono ?_
      rintro e w10 ⟨rfl, q2, hq2⟩
      have HBe : Hid (w.Since w.heap.size w10) := by rw [hq2]; exact since_drewN HB10.out _
      clear hq2 hnl hns
      go_wp2_with fail
      go_ret
      exact done_of HBe.out

end Go.Proofs.Qxb6601879a
