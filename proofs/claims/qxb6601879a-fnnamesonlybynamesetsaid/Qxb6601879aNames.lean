/-
  (*Summary).Names (14).
-/
import Derived.Test.Qxb6601879aBuild2
import Derived.Test.Qxb6601879aMarks
namespace Go.Proofs.Qxb6601879a
open Go.RowKit

/-- What the classes' slice looks like, and where its cells lie. -/
theorem sum_form {w : World} {g : Nat} {root : ByteArray} {nm v : Value} {k : Nat} {N U X : Nat → Int} {T : Nat → Bool} {f : Nat → Option Addr × Nat} (h : Sum w g root nm v k (cls N U X T f k)) :
    ∃ av cv gv, v = .slice av k cv ∧ (0 < k → av = some ⟨gv, 0, none⟩) ∧ (0 < k → gv < w.heap.size) ∧ ∀ j, j < k → ∀ t, t < 5 → w.cell? ⟨gv, j * 5 + t, none⟩ = (cl N U X T f j)[t]? := by
  have hlen : ∀ m, (cls N U X T f m).length = m * 5 := by
    intro m
    induction m with
    | zero => rfl
    | succ m ih => rw [cls_succ, List.length_append, ih]; simp [cl]; omega
  have hget : ∀ m j t, j < m → t < 5 → (cls N U X T f m)[j * 5 + t]? = (cl N U X T f j)[t]? := by
    intro m
    induction m with
    | zero => intro j t hj; omega
    | succ m ih =>
      intro j t hj ht
      rw [cls_succ]
      by_cases e : j = m
      · subst e
        rw [List.getElem?_append_right (by rw [hlen]; omega), hlen]
        rw [show j * 5 + t - j * 5 = t by omega]
      · rw [List.getElem?_append_left (by rw [hlen]; omega)]
        exact ih j t (by omega) ht
  rcases h.own.2 with ⟨rfl, rfl⟩ | ⟨gv, cap, cur, rfl, _, hg, _⟩
  · exact ⟨none, 0, 0, rfl, fun h => by omega, fun h => by omega, fun j hj => by omega⟩
  · refine ⟨_, cap, gv, rfl, fun _ => rfl, fun _ => ?_, fun j hj t ht => ?_⟩
    · obtain ⟨hlt, _⟩ := Array.getElem?_eq_some_iff.1 hg
      exact hlt
    · rw [h.own.cellAt (j * 5 + t) (by omega)]
      exact hget k j t hj ht

/-- The names that are marked, in the order of the names. -/
def picked (S : Nat → ByteArray) (M : Nat → Bool) (j : Nat) : List ByteArray := ((List.range j).filter M).map S
theorem picked_yes {S : Nat → ByteArray} {M : Nat → Bool} {j : Nat} (h : M j = true) : picked S M (j + 1) = picked S M j ++ [S j] := by
  unfold picked; rw [List.range_succ, List.filter_append]; simp [h]
theorem picked_no {S : Nat → ByteArray} {M : Nat → Bool} {j : Nat} (h : M j = false) : picked S M (j + 1) = picked S M j := by
  unfold picked; rw [List.range_succ, List.filter_append]; simp [h]
theorem picked_le (S : Nat → ByteArray) (M : Nat → Bool) (j : Nat) : (picked S M j).length ≤ j := by
  unfold picked; rw [List.length_map]; have := List.length_filter_le M (List.range j); simpa using this

theorem names_step {w wr w1 : World} {n j : Nat} {N : Nat → Int} {v : Value} {m : Nat} {xs : List Value} {o : Obj} (hM : MarkRow wr w.heap.size n N j) (hS : w.Since w.heap.size wr) (hown : wr.ownsRow (w.heap.size + 1) 9 1 v m xs) (hgrow : (wr.alloc o).grownBy w1 v.ownBlock) :
    Hid (MarkRow w1 w.heap.size n N j) ∧ Hid (w.Since w.heap.size w1) := by
  have hH := World.rowIs.lt hM
  have hne : ∀ k, v.ownBlock = some k → w.heap.size + 1 ≤ k := fun k e => (hown.lt k e).1
  refine ⟨World.rowIs.of_block hM ?_, (hS.alloc (by omega) o).grown hgrow (by simp; omega) (fun k e => by have := hne k e; omega)⟩
  rw [hgrow.block w.heap.size (by simp; omega) (fun e => by have := hne _ e.symm; omega)]
  exact Below.heap_alloc _ _ _ hH
theorem names_end {w : World} {B : Nat} {v : Value} {L : List ByteArray} (hown : w.ownsRow B 9 1 v L.length (L.map Value.string)) (hnil : L = [] → v = .slice none 0 0) :
    ∃ a' c', v = .slice a' L.length c' ∧ Arr w a' L.length (fun i => .string (L.getD i ByteArray.empty)) ∧ (a' = none ↔ L = []) := by
  by_cases hL : L = []
  · refine ⟨none, 0, by rw [hnil hL, hL]; rfl, by rw [hL]; exact Arr.nil, ⟨fun _ => hL, fun _ => rfl⟩⟩
  · obtain ⟨g, cap, hv, _, _⟩ := hown.form (List.length_pos_iff.2 hL)
    refine ⟨some ⟨g, 0, none⟩, cap, hv, ⟨g, 0, fun _ => rfl, fun i hi => ?_⟩, ⟨fun h => (nomatch h), fun h => absurd h hL⟩⟩
    rw [hv] at hown
    rw [Nat.zero_add, hown.cellAt i (by omega), List.getElem?_map]
    show _ = some (Value.string (L.getD i ByteArray.empty))
    rw [List.getD_eq_getElem?_getD, List.getElem?_eq_getElem hi]
    rfl

def NamesPost (L : List ByteArray) (w : World) (e : Ending) (w' : World) : Prop :=
  ∃ a' c', e = .returned (.slice a' L.length c') ∧ Arr w' a' L.length (fun i => .string (L.getD i ByteArray.empty)) ∧ (a' = none ↔ L = []) ∧ w.Since w.heap.size w'

set_option maxRecDepth 100000 in
set_option maxHeartbeats 2000000 in
theorem names_any (g : Nat) (root : ByteArray) (a : Option Addr) (n c : Nat) (v : Value) (k : Nat) (N U X : Nat → Int) (T : Nat → Bool) (f : Nat → Option Addr × Nat) (S : Nat → ByteArray) (w : World) (hn : n ≤ 1048576) (hk : k ≤ 1048576)
    (hN : ∀ i, i < k → 0 ≤ N i ∧ N i < n) (hS : Sum w g root (.slice a n c) v k (cls N U X T f k)) (hA : Arr w a n (fun i => .string (S i))) :
    Calls Try.prog 14 #[.pointer (some ⟨g, 0, none⟩)] w (NamesPost (picked S (mk N k) n) w) := by
  have hmk := run_make_row' (P := Try.prog) 24 4 (.bool false) 1 Try.underlying24 info4 rfl .i64 .i64 n (by omega) (by omega)
  obtain ⟨b, o, ha, hc⟩ := hA
  have HA := hide ha
  have HC := hide hc
  have HN := hide hN
  obtain ⟨av, cv, gv, hv, hav, hgv, hcl⟩ := sum_form hS
  have hg : g < w.heap.size := hS.row.lt
  have f1 : w.cell? ⟨g, 1, none⟩ = some (.slice a n c) := hS.row.cell (i := 1) (by omega)
  have f2 : w.cell? ⟨g, 2, none⟩ = some (.slice av k cv) := by rw [← hv]; exact hS.row.cell (i := 2) (by omega)
  have HAV := hide hav
  have HGV := hide hgv
  have HCL := hide hcl
  clear ha hc hN hS hv hav hgv hcl
  go_enter Try.func14, Try.ntmps14
  go_wp2
  clear hmk
  go_loopw [20] (fun i wr => ∃ j : Nat, j ≤ k ∧ i = .int .i64 j ∧ Hid (MarkRow wr w.heap.size n N j) ∧ Hid (w.Since w.heap.size wr)) (fun i _ => k - (intOf i).toNat)
  case atStart => exact ⟨0, Nat.zero_le _, rfl, markRow_start w n N, (World.Since.refl _ w).alloc (Nat.le_refl _) _⟩
  case round =>
    obtain ⟨j, hj, rfl, hM, hSi⟩ := hrel
    by_cases hlt : j < k
    · obtain rfl := HAV.out (by omega)
      have hgv := HGV.out (by omega)
      have cc : ∀ t, t < 5 → wr.cell? ⟨gv, j * 5 + t, none⟩ = (cl N U X T f j)[t]? := fun t ht => by rw [hSi.out.cell (a := ⟨gv, j * 5 + t, none⟩) hgv]; exact HCL.out j hlt t ht
      have q0 : wr.cell? ⟨gv, j * 5, none⟩ = some (.int .i64 (N j)) := cc 0 (by omega)
      have q1 : wr.cell? ⟨gv, j * 5 + 1, none⟩ = some (.slice (f j).1 (f j).2 (f j).2) := cc 1 (by omega)
      have q2 : wr.cell? ⟨gv, j * 5 + 2, none⟩ = some (.bool (T j)) := cc 2 (by omega)
      have q3 : wr.cell? ⟨gv, j * 5 + 3, none⟩ = some (.int .i64 (U j)) := cc 3 (by omega)
      have q4 : wr.cell? ⟨gv, j * 5 + 4, none⟩ = some (.int .i64 (X j)) := cc 4 (by omega)
      obtain ⟨n0, n1⟩ := HN.out j hlt
      have hH : w.heap.size < wr.heap.size := World.rowIs.lt hM.out
      obtain ⟨v1, g1⟩ : ∃ v1, ∀ o, (wr.alloc o).cell? ⟨w.heap.size, (N j).toNat, none⟩ = some v1 := ⟨_, fun o => World.rowIs.cell (World.rowIs.alloc hM.out o) (by omega)⟩
      have g2 : ∀ o, (wr.alloc o).frozen? ⟨w.heap.size, (N j).toNat, none⟩ = false := fun o => World.rowIs.frozen (World.rowIs.alloc hM.out o) _
      have HM2 : Hid (∀ o, MarkRow ((wr.setCell ⟨w.heap.size, (N j).toNat, none⟩ (.bool true)).alloc o) w.heap.size n N (j + 1)) := fun o => World.rowIs.alloc (markRow_set hM.out n0) o
      have HM3 : Hid (∀ o, MarkRow ((wr.alloc o).setCell ⟨w.heap.size, (N j).toNat, none⟩ (.bool true)) w.heap.size n N (j + 1)) := fun o => markRow_set (World.rowIs.alloc hM.out o) n0
      have HS2 : Hid (∀ o, w.Since w.heap.size ((wr.setCell ⟨w.heap.size, (N j).toNat, none⟩ (.bool true)).alloc o)) := fun o => (hSi.out.setCell (a := ⟨w.heap.size, (N j).toNat, none⟩) (Nat.le_refl _) (.bool true)).alloc (by simp [World.setCell]; omega) o
      have HS3 : Hid (∀ o, w.Since w.heap.size ((wr.alloc o).setCell ⟨w.heap.size, (N j).toNat, none⟩ (.bool true))) := fun o => (hSi.out.alloc (by omega) o).setCell (a := ⟨w.heap.size, (N j).toNat, none⟩) (Nat.le_refl _) (.bool true)
      clear cc
      go_wp2
      go_roundw
      case rel => exact ⟨j + 1, by omega, by go_num, by first | exact HM2.out _ | exact HM3.out _, by first | exact HS2.out _ | exact HS3.out _⟩
      case measure => simp [intOf]; omega
    · obtain rfl : j = k := by omega
      have k1 : wr.cell? ⟨g, 1, none⟩ = some (.slice a n c) := by rw [hSi.out.cell (a := ⟨g, 1, none⟩) hg]; exact f1
      have hH : w.heap.size < wr.heap.size := World.rowIs.lt hM.out
      obtain ⟨i0, hi, hz0, hz1, hz2⟩ := info_parts info9
      go_wp2
      go_loopw [6, 34] (fun v i wx => ∃ t : Nat, t ≤ n ∧ i = .int .i64 t ∧ Hid (MarkRow wx w.heap.size n N j) ∧ Hid (w.Since w.heap.size wx) ∧ wx.ownsRow (w.heap.size + 1) 9 1 v (picked S (mk N j) t).length ((picked S (mk N j) t).map Value.string) ∧ Hid (picked S (mk N j) t = [] → v = .slice none 0 0)) (fun _ i _ => n - (intOf i).toNat)
      case atStart => exact ⟨0, Nat.zero_le _, rfl, hM, hSi, World.ownsRow_nil _ _ _ _, fun _ => rfl⟩
      case round =>
        obtain ⟨t, ht, rfl, hM2, hS2, hown, hnil⟩ := hrel
        clear hM hSi k1 hH
        have hH2 : w.heap.size < wr.heap.size := World.rowIs.lt hM2.out
        have hle := picked_le S (mk N j) t
        by_cases hlt : t < n
        · obtain rfl := HA.out (by omega)
          have hb : b < w.heap.size := World.block_lt_of_cell? _ _ (HC.out t hlt)
          have g0 : wr.cell? ⟨b, o + t, none⟩ = some (.string (S t)) := by rw [hS2.out.cell (a := ⟨b, o + t, none⟩) hb]; exact HC.out t hlt
          have g1 : wr.cell? ⟨w.heap.size, t, none⟩ = some (.bool (mk N j t)) := World.rowIs.cell hM2.out hlt
          cases hm : mk N j t with
          | false =>
            rw [hm] at g1
            have HP := hide (picked_no (S := S) hm)
            have HO := hide hown
            clear hm hown
            go_wp2
            go_roundw
            case rel => exact ⟨t + 1, by omega, by go_num, hM2, hS2, by rw [HP.out]; exact HO.out, by rw [HP.out]; exact hnil⟩
            case measure => simp [intOf]; omega
          | true =>
            rw [hm] at g1
            have HP := hide (picked_yes (S := S) hm)
            clear hm
            go_wp2_with (at_builtin; refine wpList_append_lies _ rfl (.tmp 43) (.tmp 45) 22 rfl (w.heap.size + 1) 9 i0 _ 1 16 Try.underlying22 hi hz0 hz1 hz2 rfl (by decide) _ (picked S (mk N j) t).length ((picked S (mk N j) t).map Value.string) rfl (hown.alloc _) ⟨wr.heap.size, 0, none⟩ 1 1 [.string (S t)] rfl rfl ?c1 ?c2 (by decide) ?c3 ?c4 ?c5 _ rfl ?_)
            case c2 => rfl
            case c3 => unfold maxLen; omega
            case c4 => omega
            case c5 => omega
            intro g1 cap w1 hown1 hgrow hat hlt1
            have HR := hide (names_step hM2.out hS2.out hown hgrow)
            have HO : Hid (w1.ownsRow (w.heap.size + 1) 9 1 (.slice (some ⟨g1, 0, none⟩) ((picked S (mk N j) t).length + 1) cap) (picked S (mk N j) (t + 1)).length ((picked S (mk N j) (t + 1)).map Value.string)) := by
              rw [HP.out, List.length_append, List.map_append]
              exact hown1
            clear hown hown1 hgrow hat hlt1
            go_wp2
            go_roundw
            case rel => exact ⟨t + 1, by omega, by go_num, HR.out.1, HR.out.2, HO.out, fun h => by rw [HP.out] at h; simp at h⟩
            case measure => simp [intOf]; omega
        · have HF := hide (names_end hown hnil.out)
          obtain rfl : t = n := by omega
          clear hown
          obtain ⟨a', c', hv', hA', hn'⟩ := HF.out
          have HX := hide hA'
          have HY := hide hn'
          clear hA' hn' HF
          subst hv'
          go_wp2
          go_ret
          exact ⟨a', c', rfl, HX.out, HY.out, hS2.out⟩

end Go.Proofs.Qxb6601879a
