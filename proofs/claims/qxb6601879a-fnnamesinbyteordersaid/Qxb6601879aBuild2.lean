/-
  zzBuildSummary (13).
-/
import Derived.Test.Qxb6601879aBuild
import Derived.Deep.RegionHeld3
namespace Go.Proofs.Qxb6601879a
open Go.RowKit

/-- The cells of mark i, and of the first k marks. -/
def cl (N U X : Nat → Int) (T : Nat → Bool) (f : Nat → Option Addr × Nat) (i : Nat) : List Value := [.int .i64 (N i), .slice (f i).1 (f i).2 (f i).2, .bool (T i), .int .i64 (U i), .int .i64 (X i)]
def cls (N U X : Nat → Int) (T : Nat → Bool) (f : Nat → Option Addr × Nat) (k : Nat) : List Value := (List.range k).flatMap (cl N U X T f)
theorem cls_succ (N U X : Nat → Int) (T : Nat → Bool) (f : Nat → Option Addr × Nat) (k : Nat) : cls N U X T f (k + 1) = cls N U X T f k ++ cl N U X T f k := by
  unfold cls
  rw [List.range_succ, List.flatMap_append]
  simp

def BuildPost (root : ByteArray) (nm : Value) (n : Nat) (xs : List Value) (w : World) (e : Ending) (w' : World) : Prop :=
  ∃ v, e = .returned (.pointer (some ⟨w.heap.size, 0, none⟩)) ∧ Sum w' w.heap.size root nm v n xs ∧ w.Since w.heap.size w'

set_option maxRecDepth 100000 in
set_option maxHeartbeats 2000000 in
theorem build_any (root : ByteArray) (a0 a1 a2 a3 a4 a5 : Option Addr) (n0 n c0 c1 c2 c3 c4 c5 : Nat) (N U X : Nat → Int) (T : Nat → Bool) (f : Nat → Option Addr × Nat) (w : World) (hn : n ≤ 1048576)
    (h1 : Arr w a1 n (fun i => .int .i64 (N i))) (h2 : Arr w a2 n (fun i => .int .i64 (U i))) (h3 : Arr w a3 n (fun i => .int .i64 (X i))) (h4 : Arr w a4 n (fun i => .bool (T i))) (h5 : Arr w a5 n (fun i => .slice (f i).1 (f i).2 (f i).2)) :
    Calls Try.prog 13 #[.string root, .slice a0 n0 c0, .slice a1 n c1, .slice a2 n c2, .slice a3 n c3, .slice a4 n c4, .slice a5 n c5] w (BuildPost root (.slice a0 n0 c0) n (cls N U X T f n) w) := by
  obtain ⟨b1, o1, e1, h1⟩ := h1
  obtain ⟨b2, o2, e2, h2⟩ := h2
  obtain ⟨b3, o3, e3, h3⟩ := h3
  obtain ⟨b4, o4, e4, h4⟩ := h4
  obtain ⟨b5, o5, e5, h5⟩ := h5
  have E1 := hide e1
  have E2 := hide e2
  have E3 := hide e3
  have E4 := hide e4
  have E5 := hide e5
  have H1 := hide h1
  have H2 := hide h2
  have H3 := hide h3
  have H4 := hide h4
  have H5 := hide h5
  clear e1 e2 e3 e4 e5 h1 h2 h3 h4 h5
  obtain ⟨G, hG⟩ : ∃ G, w.heap.size = G := ⟨_, rfl⟩
  go_enter Try.func13, Try.ntmps13
  go_wp2_with fail
  refine (new_any root a0 n0 c0 w).mono ?_
  rintro e w1 ⟨rfl, hw⟩
  have HS0 : Hid (Sum w1 G root (.slice a0 n0 c0) (.slice none 0 0) 0 (cls N U X T f 0)) := by rw [hw, ← hG]; exact sum_start root _ w
  have HB0 : Hid (w.Since G w1) := by rw [hw, ← hG]; exact (World.Since.refl _ w).alloc (Nat.le_refl _) _
  clear hw
  rw [hG]
  have HG := hide hG
  go_wp2_with fail
  go_loopw [16] (fun i wr => ∃ (k : Nat) (v : Value), k ≤ n ∧ i = .int .i64 k ∧ Hid (Sum wr G root (.slice a0 n0 c0) v k (cls N U X T f k)) ∧ Hid (w.Since G wr)) (fun i _ => n - (intOf i).toNat)
  case atStart => exact ⟨0, _, Nat.zero_le _, rfl, HS0, HB0⟩
  case round =>
    obtain ⟨k, v, hk, rfl, hS, hB⟩ := hrel
    clear HS0 HB0
    by_cases hlt : k < n
    · obtain rfl := E1.out (by omega)
      obtain rfl := E2.out (by omega)
      obtain rfl := E3.out (by omega)
      obtain rfl := E4.out (by omega)
      obtain rfl := E5.out (by omega)
      have l1 : b1 < G := by rw [← hG]; exact World.block_lt_of_cell? _ _ (H1.out k hlt)
      have l2 : b2 < G := by rw [← hG]; exact World.block_lt_of_cell? _ _ (H2.out k hlt)
      have l3 : b3 < G := by rw [← hG]; exact World.block_lt_of_cell? _ _ (H3.out k hlt)
      have l4 : b4 < G := by rw [← hG]; exact World.block_lt_of_cell? _ _ (H4.out k hlt)
      have l5 : b5 < G := by rw [← hG]; exact World.block_lt_of_cell? _ _ (H5.out k hlt)
      have k1 : wr.cell? ⟨b1, o1 + k, none⟩ = some (.int .i64 (N k)) := by rw [hB.out.cell (a := ⟨b1, o1 + k, none⟩) l1]; exact H1.out k hlt
      have k2 : wr.cell? ⟨b2, o2 + k, none⟩ = some (.int .i64 (U k)) := by rw [hB.out.cell (a := ⟨b2, o2 + k, none⟩) l2]; exact H2.out k hlt
      have k3 : wr.cell? ⟨b3, o3 + k, none⟩ = some (.int .i64 (X k)) := by rw [hB.out.cell (a := ⟨b3, o3 + k, none⟩) l3]; exact H3.out k hlt
      have k4 : wr.cell? ⟨b4, o4 + k, none⟩ = some (.bool (T k)) := by rw [hB.out.cell (a := ⟨b4, o4 + k, none⟩) l4]; exact H4.out k hlt
      have k5 : wr.cell? ⟨b5, o5 + k, none⟩ = some (.slice (f k).1 (f k).2 (f k).2) := by rw [hB.out.cell (a := ⟨b5, o5 + k, none⟩) l5]; exact H5.out k hlt
      have z0 : (0 : Int) ≤ (k : Int) := by omega
      have z1 : (k : Int) < (n : Int) := by omega
      clear hG
      have K1 := hide k1
      have K2 := hide k2
      have K3 := hide k3
      have K4 := hide k4
      have K5 := hide k5
      go_wp2
      go_region_held3 (fun w' => w'.cell? ⟨b1, o1 + k, none⟩ = some (.int .i64 (N k)) ∧ w'.cell? ⟨b2, o2 + k, none⟩ = some (.int .i64 (U k)) ∧ w'.cell? ⟨b3, o3 + k, none⟩ = some (.int .i64 (X k)) ∧ w'.cell? ⟨b4, o4 + k, none⟩ = some (.bool (T k)) ∧ w'.cell? ⟨b5, o5 + k, none⟩ = some (.slice (f k).1 (f k).2 (f k).2))
        (first | go_keep | exact ⟨(hB'.cell (a := ⟨b1, o1 + k, none⟩) l1).trans K1.out, (hB'.cell (a := ⟨b2, o2 + k, none⟩) l2).trans K2.out, (hB'.cell (a := ⟨b3, o3 + k, none⟩) l3).trans K3.out, (hB'.cell (a := ⟨b4, o4 + k, none⟩) l4).trans K4.out, (hB'.cell (a := ⟨b5, o5 + k, none⟩) l5).trans K5.out⟩)
        ((go_at_call 34; refine (add_any G root (.slice a0 n0 c0) v k (cls N U X T f k) wr.drew (N k) (U k) (X k) (f k).1 (f k).2 (f k).2 (T k) (by omega) ⟨hS.out.row, hS.out.own⟩).mono ?_; rintro e w' ⟨rfl, v', hS', hB', hlt'⟩))
      have HS2 := hide hS'
      have HB2 := hide (hB.out.drew.trans hB')
      clear hS' hB'
      go_wp2
      go_roundw
      case rel => exact ⟨k + 1, v', by omega, by go_num, by rw [cls_succ]; exact HS2.out, HB2⟩
      case measure => simp [intOf]; omega
    · go_wp2
      go_ret
      obtain rfl : k = n := by omega
      exact ⟨v, by rw [HG.out]; rfl, by rw [HG.out]; exact hS.out, by rw [HG.out]; exact hB.out⟩

end Go.Proofs.Qxb6601879a
