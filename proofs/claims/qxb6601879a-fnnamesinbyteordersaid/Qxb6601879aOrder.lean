/-
  FnNamesInByteOrder (3): the walk.
-/
import Derived.Test.Qxb6601879aPlain
import Derived.Test.Qxb6601879aSizes
import Derived.Test.Qxb6601879aBytes
namespace Go.Proofs.Qxb6601879a
open Go.RowKit

/-- What both laws come to: true, and nothing that was there has turned. -/
def Done (w : World) (e : Ending) (w' : World) : Prop := e = .returned (.bool true) ∧ Below w.heap.size w w'
theorem done_of {w w' : World} (h : w.Since w.heap.size w') : Done w (.returned (.bool true)) w' := ⟨rfl, since_below h⟩

/-- What the last two loops read. -/
structure Env (w wy : World) (ag : Option Addr) (m : Nat) (gf : Nat → ByteArray) (a0 : Option Addr) (n0 : Nat) (S : Nat → ByteArray) (a1 : Option Addr) (n5 : Nat) (N : Nat → Int) : Prop where
  since : w.Since w.heap.size wy
  got : Arr wy ag m (fun i => .string (gf i))
  nam : Arr wy a0 n0 (fun i => .string (S i))
  cln : Arr wy a1 n5 (fun i => .int .i64 (N i))
theorem Env.drewN {w wy : World} {ag : Option Addr} {m : Nat} {gf : Nat → ByteArray} {a0 : Option Addr} {n0 : Nat} {S : Nat → ByteArray} {a1 : Option Addr} {n5 : Nat} {N : Nat → Int} (h : Env w wy ag m gf a0 n0 S a1 n5 N) (q : Nat) : Env w (wy.drewN q) ag m gf a0 n0 S a1 n5 N :=
  ⟨since_drewN h.since q, h.got, h.nam, h.cln⟩

set_option maxRecDepth 100000 in
set_option maxHeartbeats 4000000 in
theorem order_walk (root : ByteArray) (a0 a1 a2 a3 a4 a5 : Option Addr) (n0 n1 n2 n3 n4 n5 c0 c1 c2 c3 c4 c5 : Nat) (S : Nat → ByteArray) (N U X : Nat → Int) (T : Nat → Bool) (A : Nat → Option Addr) (L C : Nat → Nat) (Z : Nat → Nat → Int) (w : World)
    (hs : ∀ i, i < n0 → (S i).size ≤ 9223372036854775807) (e0 : a0 = none → n0 = 0 ∧ c0 = 0) (e5 : a5 = none → n5 = 0 ∧ c5 = 0)
    (h0 : Arr w a0 n0 (fun i => .string (S i))) (h1 : Arr w a1 n1 (fun i => .int .i64 (N i))) (h2 : Arr w a2 n2 (fun i => .int .i64 (U i))) (h3 : Arr w a3 n3 (fun i => .int .i64 (X i))) (h4 : Arr w a4 n4 (fun i => .bool (T i)))
    (h5 : Arr w a5 n5 (fun i => .slice (A i) (L i) (C i))) (h6 : ∀ i, i < n5 → Arr w (A i) (L i) (fun j => .int .i64 (Z i j))) :
    Calls Try.prog 3 #[.string root, .slice a0 n0 c0, .slice a1 n1 c1, .slice a2 n2 c2, .slice a3 n3 c3, .slice a4 n4 c4, .slice a5 n5 c5] w (Done w) := by
  have HSZ := hide hs
  have E0 := hide e0
  have E5 := hide e5
  have H0 := hide h0
  have H1 := hide h1
  have H2 := hide h2
  have H3 := hide h3
  have H4 := hide h4
  have H5 := hide h5
  have H6 := hide h6
  clear hs e0 e5 h0 h1 h2 h3 h4 h5 h6
  go_enter Try.func3, Try.ntmps3
  go_wp2_with fail
  refine (bytes7_any root a0 a1 a2 a3 a4 a5 n0 n1 n2 n3 n4 n5 c0 c1 c2 c3 c4 c5 S A L C w H0.out H5.out).mono ?_
  rintro e w' ⟨r, rfl, hr, hw⟩
  replace hw := hw.symm
  subst hw
  cases r with
  | false =>
    clear hr
    go_wp2_with fail
    go_ret
    exact done_of (World.Since.refl _ _)
  | true =>
  have HSm := hide (hr rfl)
  clear hr
  go_wp2_with fail
  refine (namesBytes_any root a0 a1 a2 a3 a4 a5 n0 n1 n2 n3 n4 n5 c0 c1 c2 c3 c4 c5 S A L C w HSm.out.h0 HSm.out.h5 H0.out H5.out).mono ?_
  rintro e w' ⟨t, rfl, hw⟩
  replace hw := hw.symm
  subst hw
  by_cases ht : 1048576 < t
  · go_wp2_with fail
    go_ret
    exact done_of (World.Since.refl _ _)
  have ht' : decide (1048576 < t) = false := decide_eq_false ht
  clear ht
  go_wp2_with fail
  refine (domain_any a0 a1 a2 a3 a4 a5 n0 n1 n2 n3 n4 n5 c0 c1 c2 c3 c4 c5 N w HSm.out.h1 H1.out).mono ?_
  rintro e w' ⟨r, rfl, hr, hw⟩
  replace hw := hw.symm
  subst hw
  cases r with
  | false =>
    clear hr
    go_wp2_with fail
    go_ret
    exact done_of (World.Since.refl _ _)
  | true =>
  obtain ⟨q2, q3, q4, q5, hN⟩ := hr rfl
  clear hr
  subst q2 q3 q4 q5
  have HN := hide hN
  clear hN
  have hn0 := HSm.out.h0
  have hn1 := HSm.out.h1
  go_wp2_with fail
  -- LOOP 1: the names are in order, or the law lets the input by
  go_loopw [15] (fun i wr => ∃ t : Nat, 1 ≤ t ∧ t ≤ n0 + 1 ∧ i = .int .i64 t ∧ Hid (∀ i, 1 ≤ i → i < t → i < n0 → less (S (i - 1)) (S i) = true) ∧ Hid (∃ q, wr = w.drewN q)) (fun i _ => n0 + 1 - (intOf i).toNat)
  case atStart => exact ⟨1, by omega, by omega, rfl, fun i _ _ _ => by omega, 0, rfl⟩
  case round =>
    obtain ⟨t, ht1, ht2, rfl, hord, hq⟩ := hrel
    obtain ⟨q, hq⟩ := hq
    have HQ := hide hq
    by_cases hlt : t < n0
    · obtain ⟨b, o, ea, hc⟩ := H0.out
      obtain rfl := ea (by omega)
      have g0 : wr.cell? ⟨b, o + (t - 1), none⟩ = some (.string (S (t - 1))) := by rw [hq]; exact hc (t - 1) (by omega)
      have g1 : wr.cell? ⟨b, o + t, none⟩ = some (.string (S t)) := by rw [hq]; exact hc t hlt
      clear hq hc ea
      have z0 : (0 : Int) ≤ (t : Int) := by omega
      have z1 : (t : Int) < (n0 : Int) := by omega
      have z2 : (0 : Int) ≤ (t : Int) - 1 := by omega
      have z3 : (t : Int) - 1 < (n0 : Int) := by omega
      cases hl : less (S (t - 1)) (S t) with
      | true =>
        have HL := hide hl
        go_wp2
        go_quiet ((go_at_call 10; exact Calls.quiet_of (less_any _ _ _ (HSZ.out _ (by omega)))))
        go_wp2
        go_roundw
        case rel =>
          refine ⟨t + 1, by omega, by omega, by go_num, fun i a b c => ?_, q + nq, by rw [HQ.out, World.drewN_drewN]⟩
          by_cases e : i = t
          · subst e; exact HL.out
          · exact hord.out i a (by omega) c
        case measure => simp [intOf]; omega
      | false =>
        go_wp2
        go_quiet ((go_at_call 10; exact Calls.quiet_of (less_any _ _ _ (HSZ.out _ (by omega)))))
        go_wp2
        go_ret
        exact done_of (by rw [HQ.out]; exact since_drewN (since_drewN (World.Since.refl _ _) _) _)
    · have HO : Hid (∀ i, 1 ≤ i → i < n0 → less (S (i - 1)) (S i) = true) := fun i a b => hord.out i a (by omega) b
      have HB1 : Hid (w.Since w.heap.size wr) := by rw [hq]; exact since_drewN (World.Since.refl _ _) _
      have hz1 : wr.heap.size = w.heap.size := by rw [hq]; rfl
      have HZ1 := hide hz1
      have K0 : Hid (Arr wr a0 n0 (fun i => .string (S i))) := H0.out.since HB1.out
      clear hq hz1 hord
      go_wp2_with fail
      refine (cloneStrings_any a0 n0 c0 S wr E0.out hn0 K0.out).mono ?_
      rintro e w2 ⟨a0', rfl, hA2, hS2⟩
      have HB2 : Hid (w.Since w.heap.size w2) := HB1.out.trans (since_mono hS2 (by rw [HZ1.out]; exact Nat.le_refl _))
      have KN2 := hide hA2
      clear hA2 hS2
      go_wp2_with fail
      refine (cloneInts2_any a5 n5 c5 A L C Z w2 E5.out hn1 HSm.out.hL (H5.out.since HB2.out) (fun i hi => (H6.out i hi).since HB2.out)).mono ?_
      rintro e w3 ⟨a5', f, rfl, hA3, hS3⟩
      have HB3 : Hid (w.Since w.heap.size w3) := HB2.out.trans (since_mono hS3 HB2.out.size)
      have KN3 := hide (KN2.out.since hS3)
      have KA3 := hide hA3
      clear hA3 hS3
      go_wp2_with fail
      refine (build_any root a0' a1 a2 a3 a4 a5' n0 n5 n0 c1 c2 c3 c4 n5 N U X T f w3 hn1 (H1.out.since HB3.out) (H2.out.since HB3.out) (H3.out.since HB3.out) (H4.out.since HB3.out) KA3.out).mono ?_
      rintro e w4 ⟨v, rfl, hSum, hS4⟩
      have HB4 : Hid (w.Since w.heap.size w4) := HB3.out.trans (since_mono hS4 HB3.out.size)
      have KN4 := hide (KN3.out.since hS4)
      have KS4 := hide hSum
      clear hSum hS4
      go_wp2_with fail
      refine (names_any w3.heap.size root a0' n0 n0 v n5 N U X T f S w4 hn0 hn1 HN.out KS4.out KN4.out).mono ?_
      rintro e w5 ⟨ag, cg, rfl, hG, hnil, hS5⟩
      have HB5 : Hid (w.Since w.heap.size w5) := HB4.out.trans (since_mono hS5 HB4.out.size)
      have KN5 := hide (KN4.out.since hS5)
      have KG5 := hide hG
      have K15 : Hid (Arr w5 a1 n5 (fun i => .int .i64 (N i))) := H1.out.since HB5.out
      have PL1 := picked_le S (mk N n5) n0
      have PL2 := picked_le_k S N n0 n5
      have PS := hide (picked_sorted (M := mk N n5) HO.out)
      have PH := hide (fun j hj => picked_has (S := S) (k := n5) HN.out j hj)
      have PO := hide (fun i hi => picked_of S N n0 n5 i hi)
      generalize picked S (mk N n5) n0 = G at *
      obtain ⟨m, hm⟩ : ∃ m, G.length = m := ⟨_, rfl⟩
      rw [hm] at PL1 PL2 PS PH PO KG5 ⊢
      obtain ⟨gf, hgf⟩ : ∃ gf : Nat → ByteArray, ∀ i, G.getD i ByteArray.empty = gf i := ⟨_, fun _ => rfl⟩
      have QG : Hid (Arr w5 ag m (fun i => .string (gf i))) := KG5.out.congr (fun i _ => by rw [hgf])
      have QS : Hid (∀ i, 1 ≤ i → i < m → less (gf (i - 1)) (gf i) = true) := fun i a b => by rw [← hgf, ← hgf]; exact PS.out i a b
      have QH : Hid (∀ j, j < n5 → ∃ i, i < m ∧ gf i = S (N j).toNat) := fun j hj => by obtain ⟨i, hi, e⟩ := PH.out j hj; exact ⟨i, hi, by rw [← hgf]; exact e⟩
      have QO : Hid (∀ i, i < m → ∃ j, j < n5 ∧ S (N j).toNat = gf i) := fun i hi => by obtain ⟨j, hj, e⟩ := PO.out i hi; exact ⟨j, hj, by rw [← hgf]; exact e⟩
      have QZ : Hid (∀ i, i < m → (gf i).size ≤ 9223372036854775807) := fun i hi => by
        obtain ⟨j, hj, e⟩ := QO.out i hi
        obtain ⟨a, b⟩ := HN.out j hj
        rw [← e]
        exact HSZ.out _ (by omega)
      have d1 : decide (n0 < m) = false := decide_eq_false (by omega)
      have d2 : decide (n5 < m) = false := decide_eq_false (by omega)
      clear hG hnil hS5 KS4 KN4 KN3 KA3 KN2 HB1 HB2 HB3 HB4 K0 HZ1 hm KG5 PS PH PO hgf
      go_wp2_with fail
      -- LOOP 2: what came back is in order
      go_loopw [18] (fun i wr => ∃ t : Nat, 1 ≤ t ∧ t ≤ m + 1 ∧ i = .int .i64 t ∧ Hid (∃ q, wr = w5.drewN q)) (fun i _ => m + 1 - (intOf i).toNat)
      case atStart => exact ⟨1, by omega, by omega, rfl, 0, rfl⟩
      case round =>
        obtain ⟨t, ht1, ht2, rfl, q, hq⟩ := hrel
        have HQ := hide hq
        by_cases hlt : t < m
        · obtain ⟨b, o, ea, hc⟩ := QG.out
          obtain rfl := ea (by omega)
          have g0 : wr.cell? ⟨b, o + (t - 1), none⟩ = some (.string (gf (t - 1))) := by rw [hq]; exact hc (t - 1) (by omega)
          have g1 : wr.cell? ⟨b, o + t, none⟩ = some (.string (gf t)) := by rw [hq]; exact hc t hlt
          clear hq hc ea
          have z0 : (0 : Int) ≤ (t : Int) := by omega
          have z1 : (t : Int) < (m : Int) := by omega
          have z2 : (0 : Int) ≤ (t : Int) - 1 := by omega
          have z3 : (t : Int) - 1 < (m : Int) := by omega
          have hl := QS.out t ht1 hlt
          go_wp2
          go_quiet ((go_at_call 10; exact Calls.quiet_of (less_any _ _ _ (QZ.out _ (by omega)))))
          go_wp2
          go_roundw
          case rel => exact ⟨t + 1, by omega, by omega, by go_num, q + nq, by rw [HQ.out, World.drewN_drewN]⟩
          case measure => simp [intOf]; omega
        · have HB6 : Hid (w.Since w.heap.size wr) := by rw [hq]; exact since_drewN HB5.out _
          have QG6 : Hid (Arr wr ag m (fun i => .string (gf i))) := by rw [hq]; exact QG.out
          have KN6 : Hid (Arr wr a0' n0 (fun i => .string (S i))) := by rw [hq]; exact KN5.out
          have K16 : Hid (Arr wr a1 n5 (fun i => .int .i64 (N i))) := by rw [hq]; exact K15.out
          clear hq HQ QG KN5 K15 HB5
          go_wp2_with fail
          -- LOOP 3: each name asked for came back
          go_loop [19] (fun i => ∃ t : Nat, t ≤ n5 ∧ i = .int .i64 t) (fun i => n5 - (intOf i).toNat)
          case atStart => exact ⟨0, Nat.zero_le _, rfl⟩
          case round =>
            obtain ⟨t, ht, rfl⟩ := hrel
            by_cases hlt3 : t < n5
            · obtain ⟨b, o, ea, hc⟩ := K16.out
              obtain rfl := ea (by omega)
              obtain ⟨x0, x1⟩ := HN.out t hlt3
              obtain ⟨b', o', ea', hc'⟩ := KN6.out
              obtain rfl := ea' (by omega)
              have g0 : wr.cell? ⟨b, o + t, none⟩ = some (.int .i64 (N t)) := hc t hlt3
              have g1 : wr.cell? ⟨b', o' + (N t).toNat, none⟩ = some (.string (S (N t).toNat)) := hc' _ (by omega)
              clear hc hc' ea ea'
              go_wp2_with fail
              refine (has_any _ _ _ gf _ _ (by omega) QG6.out).mono ?_
              rintro e w' ⟨r, rfl, hr, hw⟩
              replace hw := hw.symm
              subst hw
              obtain rfl : r = true := hr.2 (QH.out t hlt3)
              clear hr
              go_wp2_with fail
              go_round
              case rel => exact ⟨t + 1, by omega, by go_num⟩
              case measure => simp [intOf]; omega
            · have HE : Hid (Env w wr ag m gf a0' n0 S a1 n5 N) := ⟨HB6.out, QG6.out, KN6.out, K16.out⟩
              clear HB6 QG6 KN6 K16
              go_wp2_with fail
              -- LOOP 4: whatever came back was asked for
              go_loopw [20] (fun i wy => ∃ t : Nat, t ≤ m ∧ i = .int .i64 t ∧ Hid (Env w wy ag m gf a0' n0 S a1 n5 N)) (fun i _ => m - (intOf i).toNat)
              case atStart => exact ⟨0, Nat.zero_le _, rfl, HE⟩
              case round =>
                obtain ⟨x, hx, rfl, hE⟩ := hrel
                clear HE
                by_cases hlt4 : x < m
                · go_wp2_with fail
                  go_loopw [21, 22] (fun r i wy => ∃ (u : Nat) (f : Bool), u ≤ n5 ∧ i = .int .i64 u ∧ r = .bool f ∧ Hid (f = true ∨ ∀ j, j < u → S (N j).toNat ≠ gf x) ∧ Hid (Env w wy ag m gf a0' n0 S a1 n5 N)) (fun _ i _ => n5 - (intOf i).toNat)
                  case atStart => exact ⟨0, false, Nat.zero_le _, rfl, rfl, .inr (fun j h => by omega), hE⟩
                  case round =>
                    obtain ⟨u, fo, hu, rfl, rfl, hno, hE2⟩ := hrel
                    clear hE
                    cases fo with
                    | true =>
                      by_cases hu5 : u < n5
                      · go_wp2_with fail
                        go_roundw
                        case rel => exact ⟨x + 1, by omega, by go_num, hE2⟩
                        case measure => simp [intOf]; omega
                      · go_wp2_with fail
                        go_roundw
                        case rel => exact ⟨x + 1, by omega, by go_num, hE2⟩
                        case measure => simp [intOf]; omega
                    | false =>
                      have HNo : Hid (∀ j, j < u → S (N j).toNat ≠ gf x) := by
                        rcases hno.out with h | h
                        · exact absurd h Bool.false_ne_true
                        · exact h
                      clear hno
                      by_cases hu5 : u < n5
                      · obtain ⟨b, o, ea, hc⟩ := hE2.out.cln
                        obtain rfl := ea (by omega)
                        obtain ⟨x0, x1⟩ := HN.out u hu5
                        obtain ⟨b', o', ea', hc'⟩ := hE2.out.nam
                        obtain rfl := ea' (by omega)
                        obtain ⟨b2, o2, ea2, hc2⟩ := hE2.out.got
                        obtain rfl := ea2 (by omega)
                        have g0 : wr.cell? ⟨b, o + u, none⟩ = some (.int .i64 (N u)) := hc u hu5
                        have g1 : wr.cell? ⟨b', o' + (N u).toNat, none⟩ = some (.string (S (N u).toNat)) := hc' _ (by omega)
                        have g2 : wr.cell? ⟨b2, o2 + x, none⟩ = some (.string (gf x)) := hc2 x hlt4
                        clear hc hc' hc2 ea ea' ea2
                        have z0 : (0 : Int) ≤ (u : Int) := by omega
                        have z1 : (u : Int) < (n5 : Int) := by omega
                        have z2 : (0 : Int) ≤ (x : Int) := by omega
                        have z3 : (x : Int) < (m : Int) := by omega
                        cases hb : ((S (N u).toNat).toList == (gf x).toList) with
                        | true =>
                          go_wp2_with fail
                          go_quiet (fail)
                          go_wp2
                          go_roundw
                          case rel => exact ⟨u + 1, true, by omega, by go_num, rfl, .inl rfl, hE2.out.drewN _⟩
                          case measure => simp [intOf]; omega
                        | false =>
                          have HB : Hid (S (N u).toNat ≠ gf x) := fun e => by have := (string_eq _ _).2 e; rw [hb] at this; exact Bool.false_ne_true this
                          go_wp2_with fail
                          go_quiet (fail)
                          go_wp2
                          go_roundw
                          case rel =>
                            refine ⟨u + 1, false, by omega, by go_num, rfl, .inr (fun j h => ?_), hE2.out.drewN _⟩
                            by_cases e : j = u
                            · subst e; exact HB.out
                            · exact HNo.out j (by omega)
                          case measure => simp [intOf]; omega
                      · obtain ⟨j, hj, e⟩ := QO.out x hlt4
                        exact absurd e (HNo.out j (by omega))
                · go_wp2_with fail
                  go_ret
                  exact done_of hE.out.since

end Go.Proofs.Qxb6601879a
