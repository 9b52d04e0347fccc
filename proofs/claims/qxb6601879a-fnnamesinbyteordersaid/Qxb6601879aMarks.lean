/-
  Marks, as plain functions and as a row; zzMarks (18).
-/
import Derived.Test.Qxb6601879aClone
namespace Go.Proofs.Qxb6601879a
open Go.RowKit

/-- Does one of the first k numbers name place i? -/
def mk (N : Nat → Int) (k : Nat) (i : Nat) : Bool := (List.range k).any (fun j => N j == (i : Int))
theorem mk_iff {N : Nat → Int} {k i : Nat} : mk N k i = true ↔ ∃ j, j < k ∧ N j = (i : Int) := by simp [mk]
theorem mk_zero (N : Nat → Int) (i : Nat) : mk N 0 i = false := rfl
theorem mk_succ (N : Nat → Int) (k i : Nat) : mk N (k + 1) i = (mk N k i || (N k == (i : Int))) := by
  unfold mk
  rw [List.range_succ, List.any_append]
  simp

def MarkRow (w : World) (g n : Nat) (N : Nat → Int) (k : Nat) : Prop := w.rowIs g 4 n (fun i => .bool (mk N k i))
theorem markRow_start (w : World) (n : Nat) (N : Nat → Int) : MarkRow (w.alloc (.cells (madeCells #[.bool false] n) 4)) w.heap.size n N 0 := World.rowIs_made w _ n 4
theorem markRow_set {w : World} {g n k : Nat} {N : Nat → Int} (h : MarkRow w g n N k) (h0 : 0 ≤ N k) : MarkRow (w.setCell ⟨g, (N k).toNat, none⟩ (.bool true)) g n N (k + 1) := by
  refine (World.rowIs.set h (N k).toNat _).congr (fun i _ => ?_)
  rw [mk_succ]
  by_cases e : i = (N k).toNat
  · rw [if_pos e]
    have : (N k == (i : Int)) = true := by rw [beq_iff_eq]; omega
    rw [this, Bool.or_true]
  · rw [if_neg e]
    have : (N k == (i : Int)) = false := by rw [beq_eq_false_iff_ne]; omega
    rw [this, Bool.or_false]

def MarksPost (n : Nat) (N : Nat → Int) (k : Nat) (w : World) (e : Ending) (w' : World) : Prop :=
  e = .returned (.slice (some ⟨w.heap.size, 0, none⟩) n n) ∧ MarkRow w' w.heap.size n N k ∧ w.Since w.heap.size w'

set_option maxHeartbeats 400000 in
theorem marks_any (a : Option Addr) (n k c : Nat) (N : Nat → Int) (w : World) (hn : n ≤ 1048576) (hk : k ≤ 1048576) (hN : ∀ i, i < k → 0 ≤ N i ∧ N i < n) (hA : Arr w a k (fun i => .int .i64 (N i))) :
    Calls Try.prog 18 #[.int .i64 n, .slice a k c] w (MarksPost n N k w) := by
  have hmk := run_make_row' (P := Try.prog) 24 4 (.bool false) 1 Try.underlying24 info4 rfl .i64 .i64 n (by omega) (by omega)
  obtain ⟨b, o, ha, hc⟩ := hA
  have HA := hide ha
  have HC := hide hc
  have HN := hide hN
  clear ha hc hN
  go_enter Try.func18, Try.ntmps18
  go_wp2
  clear hmk
  go_loopw [6] (fun i wr => ∃ j : Nat, j ≤ k ∧ i = .int .i64 j ∧ Hid (MarkRow wr w.heap.size n N j) ∧ Hid (w.Since w.heap.size wr)) (fun i _ => k - (intOf i).toNat)
  case atStart => exact ⟨0, Nat.zero_le _, rfl, markRow_start w n N, (World.Since.refl _ w).alloc (Nat.le_refl _) _⟩
  case round =>
    obtain ⟨j, hj, rfl, hM, hS⟩ := hrel
    by_cases hlt : j < k
    · obtain rfl := HA.out (by omega)
      have hb : b < w.heap.size := World.block_lt_of_cell? _ _ (HC.out j hlt)
      have g0 : wr.cell? ⟨b, o + j, none⟩ = some (.int .i64 (N j)) := by rw [hS.out.cell (a := ⟨b, o + j, none⟩) hb]; exact HC.out j hlt
      obtain ⟨n0, n1⟩ := HN.out j hlt
      obtain ⟨v1, g1⟩ : ∃ v1, wr.cell? ⟨w.heap.size, (N j).toNat, none⟩ = some v1 := ⟨_, World.rowIs.cell hM.out (by omega)⟩
      have g2 : wr.frozen? ⟨w.heap.size, (N j).toNat, none⟩ = false := World.rowIs.frozen hM.out _
      have HM2 := hide (markRow_set hM.out n0)
      have HS2 := hide (hS.out.setCell (a := ⟨w.heap.size, (N j).toNat, none⟩) (Nat.le_refl _) (.bool true))
      go_wp2
      go_roundw
      case rel => exact ⟨j + 1, by omega, by go_num, HM2, HS2⟩
      case measure => simp [intOf]; omega
    · obtain rfl : j = k := by omega
      go_wp2
      go_ret
      exact ⟨rfl, hM.out, hS.out⟩

end Go.Proofs.Qxb6601879a
