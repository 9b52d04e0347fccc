/-
  zzb1Clone (10): a fresh row that holds the same bytes.
-/
import Derived.Test.Qxb6601717aLeaf
import Derived.Deep.OwnRows
import Derived.LoopTactic
import Derived.RegionTactic
namespace Go.Proofs.Qxb6601717a
open Go.RowKit

theorem info5 : (Try.prog.info? 5).map (fun i => (i.zero, i.size, i.bytes)) = some (some (.int .u8 0), 1, 1) := by kernel_rfl

theorem clone_nil (w : World) :
    Calls Try.prog 10 #[.slice none 0 0] w fun e w' => e = .returned (.slice none 0 0) ∧ w' = w := by
  have hnl := fun (wx : World) (a : Option Addr) (n c n' c' : Nat) => Lib.run_eql_slice_nil (P := Try.prog) wx 22 5 a n c n' c' Try.underlying22
  go_enter Try.func10, Try.ntmps10
  go_wp2
  go_ret
  exact ⟨rfl, rfl⟩

/-- What the loop has done behind k rounds. -/
structure CI (w wr : World) (n k : Nat) (f : Nat → Int) : Prop where
  since : w.Since w.heap.size wr
  row : wr.rowIs w.heap.size 5 n (fun i => .int .u8 (if i < k then f i else 0))

theorem ci_start (w : World) (n : Nat) (f : Nat → Int) : CI w (w.alloc (.cells (madeCells #[.int .u8 0] n) 5)) n 0 f :=
  ⟨(World.Since.refl _ w).alloc (Nat.le_refl _) _, (World.rowIs_made w _ n 5).congr (fun i _ => by simp)⟩

theorem ci_step {w wr : World} {n k : Nat} {f : Nat → Int} (h : CI w wr n k f) : CI w (wr.setCell ⟨w.heap.size, k, none⟩ (.int .u8 (f k))) n (k + 1) f := by
  refine ⟨h.since.setCell (Nat.le_refl _) _, (h.row.set k _).congr (fun i _ => ?_)⟩
  by_cases e : i = k
  · subst e; simp
  · rw [if_neg e]
    by_cases hlt : i < k
    · rw [if_pos hlt, if_pos (by omega)]
    · rw [if_neg hlt, if_neg (by omega)]

theorem ci_done {w wr : World} {n : Nat} {f : Nat → Int} (h : CI w wr n n f) : wr.rowIs w.heap.size 5 n (fun i => .int .u8 (f i)) :=
  h.row.congr (fun i hi => by rw [if_pos hi])

set_option maxHeartbeats 400000 in
theorem clone_some (x : Addr) (n cap : Nat) (b off : Nat) (f : Nat → Int) (w : World) (hx : 0 < n → x = ⟨b, off, none⟩) (hn : n ≤ 1048576)
    (hc : ∀ i, i < n → w.cell? ⟨b, off + i, none⟩ = some (.int .u8 (f i))) :
    Calls Try.prog 10 #[.slice (some x) n cap] w fun e w' => e = .returned (.slice (some ⟨w.heap.size, 0, none⟩) n n) ∧ w'.rowIs w.heap.size 5 n (fun i => .int .u8 (f i)) ∧ w.Since w.heap.size w' := by
  have hnl := fun (wx : World) (a : Option Addr) (n c n' c' : Nat) => Lib.run_eql_slice_nil (P := Try.prog) wx 22 5 a n c n' c' Try.underlying22
  have hmk := run_make_row' (P := Try.prog) 22 5 (.int .u8 0) 1 Try.underlying22 info5 rfl .i64 .i64 n (by omega) (by omega)
  go_enter Try.func10, Try.ntmps10
  go_wp2
  clear hnl hmk
  go_loopw [4] (fun i wr => ∃ k : Nat, k ≤ n ∧ i = .int .i64 k ∧ CI w wr n k f) (fun i _ => n - (intOf i).toNat)
  case atStart => exact ⟨0, Nat.zero_le _, rfl, ci_start w n f⟩
  case round =>
    obtain ⟨k, hk, rfl, hI⟩ := hrel
    by_cases hlt : k < n
    · obtain rfl := hx (by omega)
      have hb : b < w.heap.size := World.block_lt_of_cell? _ _ (hc k hlt)
      have g0 : wr.cell? ⟨b, off + k, none⟩ = some (.int .u8 (f k)) := by rw [hI.since.cell (a := ⟨b, off + k, none⟩) hb]; exact hc k hlt
      have g1 : wr.cell? ⟨w.heap.size, k, none⟩ = some (.int .u8 (if k < k then f k else 0)) := hI.row.cell hlt
      have g2 : wr.frozen? ⟨w.heap.size, k, none⟩ = false := hI.row.frozen k
      have hS := ci_step hI
      clear hc hx
      go_wp2
      go_roundw
      case rel => exact ⟨k + 1, by omega, by go_num, hS⟩
      case measure => simp [intOf]; omega
    · obtain rfl : k = n := by omega
      go_wp2
      go_ret
      exact ⟨rfl, ci_done hI, hI.since⟩

end Go.Proofs.Qxb6601717a
