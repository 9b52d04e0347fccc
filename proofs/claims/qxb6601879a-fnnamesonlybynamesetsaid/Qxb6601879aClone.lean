/-
  zzCloneStrings (11), zzCloneInts2 (12), zzMarks (18).
-/
import Derived.Test.Qxb6601879aBase
namespace Go.Proofs.Qxb6601879a
open Go.RowKit

theorem info9 : (Try.prog.info? 9).map (fun i => (i.zero, i.size, i.bytes)) = some (some (.string ByteArray.empty), 1, 16) := by kernel_rfl
theorem info23 : (Try.prog.info? 23).map (fun i => (i.zero, i.size, i.bytes)) = some (some (.slice none 0 0), 1, 24) := by kernel_rfl
theorem info3 : (Try.prog.info? 3).map (fun i => (i.zero, i.size, i.bytes)) = some (some (.int .i64 0), 1, 8) := by kernel_rfl
theorem info4 : (Try.prog.info? 4).map (fun i => (i.zero, i.size, i.bytes)) = some (some (.bool false), 1, 1) := by kernel_rfl

/-! ### A new row filled from the left -/
structure Filled (w wr : World) (t : TypeId) (n k : Nat) (z : Value) (f : Nat → Value) : Prop where
  since : w.Since w.heap.size wr
  row : wr.rowIs w.heap.size t n (fun i => if i < k then f i else z)
theorem filled_start (w : World) (t : TypeId) (n : Nat) (z : Value) (f : Nat → Value) : Filled w (w.alloc (.cells (madeCells #[z] n) t)) t n 0 z f :=
  ⟨(World.Since.refl _ w).alloc (Nat.le_refl _) _, (World.rowIs_made w _ n t).congr (fun i _ => by simp)⟩
theorem filled_step {w wr : World} {t : TypeId} {n k : Nat} {z : Value} {f : Nat → Value} (h : Filled w wr t n k z f) : Filled w (wr.setCell ⟨w.heap.size, k, none⟩ (f k)) t n (k + 1) z f := by
  refine ⟨h.since.setCell (Nat.le_refl _) _, (h.row.set k _).congr (fun i _ => ?_)⟩
  by_cases e : i = k
  · subst e; simp
  · rw [if_neg e]
    by_cases hlt : i < k
    · rw [if_pos hlt, if_pos (by omega)]
    · rw [if_neg hlt, if_neg (by omega)]
theorem filled_done {w wr : World} {t : TypeId} {n : Nat} {z : Value} {f : Nat → Value} (h : Filled w wr t n n z f) : Arr wr (some ⟨w.heap.size, 0, none⟩) n f :=
  Arr.row (h.row.congr (fun i hi => by rw [if_pos hi]))

def ClonePost (n : Nat) (f : Nat → Value) (w : World) (e : Ending) (w' : World) : Prop :=
  ∃ a', e = .returned (.slice a' n n) ∧ Arr w' a' n f ∧ w.Since w.heap.size w'

set_option maxHeartbeats 400000 in
theorem cloneStrings_any (a : Option Addr) (n c : Nat) (S : Nat → ByteArray) (w : World) (hnil : a = none → n = 0 ∧ c = 0) (hn : n ≤ 1048576) (hA : Arr w a n (fun i => .string (S i))) :
    Calls Try.prog 11 #[.slice a n c] w (ClonePost n (fun i => .string (S i)) w) := by
  have hnl := fun (wx : World) (a : Option Addr) (n c n' c' : Nat) => Lib.run_eql_slice_nil (P := Try.prog) wx 22 9 a n c n' c' Try.underlying22
  have hmk := run_make_row' (P := Try.prog) 22 9 (.string ByteArray.empty) 16 Try.underlying22 info9 rfl .i64 .i64 n (by omega) (by omega)
  cases a with
  | none =>
    obtain ⟨rfl, rfl⟩ := hnil rfl
    clear hmk
    go_enter Try.func11, Try.ntmps11
    go_wp2
    go_ret
    exact ⟨none, rfl, Arr.nil, World.Since.refl _ _⟩
  | some x =>
    obtain ⟨b, o, ha, hc⟩ := hA
    have HA := hide ha
    have HC := hide hc
    clear ha hc hnil
    go_enter Try.func11, Try.ntmps11
    go_wp2
    clear hnl hmk
    go_loopw [4] (fun i wr => ∃ k : Nat, k ≤ n ∧ i = .int .i64 k ∧ Filled w wr 9 n k (.string ByteArray.empty) (fun i => .string (S i))) (fun i _ => n - (intOf i).toNat)
    case atStart => exact ⟨0, Nat.zero_le _, rfl, filled_start w 9 n _ _⟩
    case round =>
      obtain ⟨k, hk, rfl, hI⟩ := hrel
      by_cases hlt : k < n
      · obtain ⟨rfl⟩ := HA.out (by omega)
        have hb : b < w.heap.size := World.block_lt_of_cell? _ _ (HC.out k hlt)
        have g0 : wr.cell? ⟨b, o + k, none⟩ = some (.string (S k)) := by rw [hI.since.cell (a := ⟨b, o + k, none⟩) hb]; exact HC.out k hlt
        obtain ⟨v1, g1⟩ : ∃ v1, wr.cell? ⟨w.heap.size, k, none⟩ = some v1 := ⟨_, hI.row.cell hlt⟩
        have g2 : wr.frozen? ⟨w.heap.size, k, none⟩ = false := hI.row.frozen k
        have hS := filled_step hI
        go_wp2
        go_roundw
        case rel => exact ⟨k + 1, by omega, by go_num, hS⟩
        case measure => simp [intOf]; omega
      · obtain rfl : k = n := by omega
        go_wp2
        go_ret
        exact ⟨_, rfl, filled_done hI, hI.since⟩

/-! ### zzCloneInts2: what the copies hold does not matter here -/
structure Out (w wr : World) (n : Nat) : Prop where
  since : w.Since w.heap.size wr
  lt : w.heap.size < wr.heap.size
  row : ∃ f : Nat → Option Addr × Nat, wr.rowIs w.heap.size 23 n (fun i => .slice (f i).1 (f i).2 (f i).2)
theorem out_start (w : World) (n : Nat) : Out w (w.alloc (.cells (madeCells #[.slice none 0 0] n) 23)) n :=
  ⟨(World.Since.refl _ w).alloc (Nat.le_refl _) _, by simp, fun _ => (none, 0), World.rowIs_made w _ n 23⟩
theorem out_alloc {w wr : World} {n : Nat} (h : Out w wr n) (o : Obj) : Out w (wr.alloc o) n := by
  obtain ⟨f, hf⟩ := h.row
  exact ⟨h.since.alloc (by have := h.lt; omega) _, by have := h.lt; simp; omega, f, hf.alloc o⟩
theorem out_other {w wr : World} {n g j : Nat} {v : Value} (h : Out w wr n) (hg : w.heap.size < g) : Out w (wr.setCell ⟨g, j, none⟩ v) n := by
  obtain ⟨f, hf⟩ := h.row
  exact ⟨h.since.setCell (by show w.heap.size ≤ g; omega) _, by have := h.lt; simpa [World.setCell] using this, f, hf.setOther (by show w.heap.size ≠ g; omega) _⟩
theorem out_set {w wr : World} {n k : Nat} {x : Option Addr} {l : Nat} (h : Out w wr n) : Out w (wr.setCell ⟨w.heap.size, k, none⟩ (.slice x l l)) n := by
  obtain ⟨f, hf⟩ := h.row
  refine ⟨h.since.setCell (Nat.le_refl _) _, by have := h.lt; simpa [World.setCell] using this, fun i => if i = k then (x, l) else f i, (hf.set k _).congr (fun i _ => ?_)⟩
  by_cases e : i = k
  · simp [e]
  · simp [e]
/-- The inner copy: a row of integers. -/
def Ints (wi : World) (g l : Nat) : Prop := ∃ z : Nat → Int, wi.rowIs g 3 l (fun j => .int .i64 (z j))
theorem ints_set {wi : World} {g l k : Nat} {v : Int} (h : Ints wi g l) : Ints (wi.setCell ⟨g, k, none⟩ (.int .i64 v)) g l := by
  obtain ⟨z, hz⟩ := h
  refine ⟨fun i => if i = k then v else z i, (hz.set k _).congr (fun i _ => ?_)⟩
  by_cases e : i = k
  · simp [e]
  · simp [e]
theorem ints_start (w : World) (l : Nat) : Ints (w.alloc (.cells (madeCells #[.int .i64 0] l) 3)) w.heap.size l := ⟨fun _ => 0, World.rowIs_made w _ l 3⟩

def Clone2Post (n : Nat) (w : World) (e : Ending) (w' : World) : Prop :=
  ∃ (a' : Option Addr) (f : Nat → Option Addr × Nat), e = .returned (.slice a' n n) ∧ Arr w' a' n (fun i => .slice (f i).1 (f i).2 (f i).2) ∧ w.Since w.heap.size w'

set_option maxRecDepth 100000 in
set_option maxHeartbeats 1000000 in
theorem cloneInts2_any (a : Option Addr) (n c : Nat) (A : Nat → Option Addr) (L C : Nat → Nat) (Z : Nat → Nat → Int) (w : World) (hnil : a = none → n = 0 ∧ c = 0) (hn : n ≤ 1048576) (hL : ∀ i, i < n → L i ≤ 1048576)
    (hA : Arr w a n (fun i => .slice (A i) (L i) (C i))) (hZ : ∀ i, i < n → Arr w (A i) (L i) (fun j => .int .i64 (Z i j))) :
    Calls Try.prog 12 #[.slice a n c] w (Clone2Post n w) := by
  have hnl := fun (wx : World) (a : Option Addr) (n c n' c' : Nat) => Lib.run_eql_slice_nil (P := Try.prog) wx 25 23 a n c n' c' Try.underlying25
  have hmk := run_make_row' (P := Try.prog) 25 23 (.slice none 0 0) 24 Try.underlying25 info23 rfl .i64 .i64 n (by omega) (by omega)
  cases a with
  | none =>
    obtain ⟨rfl, rfl⟩ := hnil rfl
    clear hmk
    go_enter Try.func12, Try.ntmps12
    go_wp2
    go_ret
    exact ⟨none, fun _ => (none, 0), rfl, Arr.nil, World.Since.refl _ _⟩
  | some x =>
    obtain ⟨b, o, ha, hc⟩ := hA
    have HA := hide ha
    have HC := hide hc
    have HZ := hide hZ
    have HL := hide hL
    clear ha hc hnil hZ hL
    go_enter Try.func12, Try.ntmps12
    go_wp2
    clear hnl hmk
    go_loopw [4] (fun i wr => ∃ k : Nat, k ≤ n ∧ i = .int .i64 k ∧ Out w wr n) (fun i _ => n - (intOf i).toNat)
    case atStart => exact ⟨0, Nat.zero_le _, rfl, out_start w n⟩
    case round =>
      obtain ⟨k, hk, rfl, hI⟩ := hrel
      by_cases hlt : k < n
      · obtain ⟨rfl⟩ := HA.out (by omega)
        have hb : b < w.heap.size := World.block_lt_of_cell? _ _ (HC.out k hlt)
        have g0 : wr.cell? ⟨b, o + k, none⟩ = some (.slice (A k) (L k) (C k)) := by rw [hI.since.cell (a := ⟨b, o + k, none⟩) hb]; exact HC.out k hlt
        have hne := fun (wx : World) (a : Option Addr) (n c n' c' : Nat) => run_neq_slice_nil_any (P := Try.prog) wx 23 3 a n c n' c' Try.underlying23
        cases hAk : A k with
        | none =>
          rw [hAk] at g0
          clear hAk
          go_wp2
          go_roundw
          case rel => exact ⟨k + 1, by omega, by go_num, hI⟩
          case measure => simp [intOf]; omega
        | some y =>
          obtain ⟨b2, o2, ha2, hc2⟩ := HZ.out k hlt
          rw [hAk] at g0 ha2
          have HG0 : Hid (w.cell? ⟨b, o + k, none⟩ = some (.slice (some y) (L k) (C k))) := by rw [← hAk]; exact HC.out k hlt
          have HA2 := hide ha2
          have HC2 := hide hc2
          clear hAk ha2 hc2
          have hLk := HL.out k hlt
          have hmk2 := run_make_row' (P := Try.prog) 23 3 (.int .i64 0) 8 Try.underlying23 info3 rfl .i64 .i64 (L k) (by omega) (by omega)
          obtain ⟨G, hG⟩ : ∃ G, wr.heap.size = G := ⟨_, rfl⟩
          have hlt0 : w.heap.size < G := by rw [← hG]; exact hI.lt
          have HI0 := hide (out_alloc hI (.cells (madeCells #[.int .i64 0] (L k)) 3))
          have HJ0 : Hid (Ints (wr.alloc (.cells (madeCells #[.int .i64 0] (L k)) 3)) G (L k)) := by rw [← hG]; exact ints_start wr (L k)
          clear hI
          go_wp2
          clear hne hmk2 g0 hG
          go_loopw [6] (fun i wi => ∃ j : Nat, j ≤ L k ∧ i = .int .i64 j ∧ Hid (Out w wi n) ∧ Hid (Ints wi G (L k))) (fun i _ => L k - (intOf i).toNat)
          case atStart => exact ⟨0, Nat.zero_le _, rfl, HI0, HJ0⟩
          case round =>
            obtain ⟨j, hj, rfl, hO, hJ⟩ := hrel
            clear HI0 HJ0
            by_cases hjl : j < L k
            · obtain ⟨rfl⟩ := HA2.out (by omega)
              have hb2 : b2 < w.heap.size := World.block_lt_of_cell? _ _ (HC2.out j hjl)
              have g1 : wr.cell? ⟨b, o + k, none⟩ = some (.slice (some ⟨b2, o2, none⟩) (L k) (C k)) := by rw [hO.out.since.cell (a := ⟨b, o + k, none⟩) hb]; exact HG0.out
              have g2 : wr.cell? ⟨b2, o2 + j, none⟩ = some (.int .i64 (Z k j)) := by rw [hO.out.since.cell (a := ⟨b2, o2 + j, none⟩) hb2]; exact HC2.out j hjl
              obtain ⟨z, hz⟩ := hJ.out
              have g3 : wr.cell? ⟨G, j, none⟩ = some (.int .i64 (z j)) := hz.cell hjl
              have g4 : wr.frozen? ⟨G, j, none⟩ = false := hz.frozen j
              have HO2 := hide (out_other (j := j) (v := .int .i64 (Z k j)) hO.out hlt0)
              have HJ2 := hide (ints_set (k := j) (v := Z k j) hJ.out)
              clear hz
              go_wp2
              go_roundw
              case rel => exact ⟨j + 1, by omega, by go_num, HO2, HJ2⟩
              case measure => simp [intOf]; omega
            · obtain ⟨f, hf⟩ := hO.out.row
              have g1 : wr.cell? ⟨w.heap.size, k, none⟩ = some (.slice (f k).1 (f k).2 (f k).2) := hf.cell hlt
              have g2 : wr.frozen? ⟨w.heap.size, k, none⟩ = false := hf.frozen k
              have HO2 := hide (out_set (k := k) (x := some ⟨G, 0, none⟩) (l := L k) hO.out)
              clear hf
              go_wp2
              go_roundw
              case rel => exact ⟨k + 1, by omega, by go_num, HO2.out⟩
              case measure => simp [intOf]; omega
      · go_wp2
        go_ret
        obtain ⟨f, hf⟩ := hI.row
        exact ⟨_, f, rfl, Arr.row hf, hI.since⟩

end Go.Proofs.Qxb6601879a
