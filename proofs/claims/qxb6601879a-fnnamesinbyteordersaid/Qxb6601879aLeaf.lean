/-
  zzNamesDomain (9), zzLess (10), zzHasString (15), zzSameStrings (19).
-/
import Derived.Test.Qxb6601879aBase
import Derived.Lib.Strings
namespace Go.Proofs.Qxb6601879a
open Go.RowKit

/-! ### Byte order, as plain functions -/
def lessL : List UInt8 → List UInt8 → Bool
  | [], [] => false
  | [], _ :: _ => true
  | _ :: _, [] => false
  | x :: a, y :: b => if x = y then lessL a b else decide (x < y)
theorem lessL_trans : ∀ {a b c : List UInt8}, lessL a b = true → lessL b c = true → lessL a c = true
  | [], [], _, h, _ => by simp [lessL] at h
  | [], _ :: _, [], _, h => by simp [lessL] at h
  | [], _ :: _, _ :: _, _, _ => rfl
  | _ :: _, [], _, h, _ => by simp [lessL] at h
  | _ :: _, _ :: _, [], _, h => by simp [lessL] at h
  | x :: a, y :: b, z :: c, h1, h2 => by
    simp only [lessL] at h1 h2 ⊢
    by_cases e1 : x = y
    · subst e1
      rw [if_pos rfl] at h1
      by_cases e2 : x = z
      · subst e2
        rw [if_pos rfl] at h2 ⊢
        exact lessL_trans h1 h2
      · rw [if_neg e2] at h2 ⊢
        exact h2
    · rw [if_neg e1] at h1
      have l1 : x < y := by simpa using h1
      by_cases e2 : y = z
      · subst e2
        rw [if_neg e1]
        exact h1
      · rw [if_neg e2] at h2
        have l2 : y < z := by simpa using h2
        have l3 : x < z := UInt8.lt_trans l1 l2
        have e3 : x ≠ z := fun e => by subst e; exact absurd l3 (UInt8.lt_irrefl _)
        rw [if_neg e3]
        simpa using l3
theorem lessL_drop {a b : List UInt8} : ∀ (k : Nat), (∀ j, j < k → a[j]? = b[j]? ∧ j < a.length ∧ j < b.length) → lessL a b = lessL (a.drop k) (b.drop k) := by
  induction a generalizing b with
  | nil =>
    intro k h
    cases k with
    | zero => rfl
    | succ k => have := (h 0 (by omega)).2.1; simp at this
  | cons x a ih =>
    intro k h
    cases k with
    | zero => rfl
    | succ k =>
      cases b with
      | nil => have := (h 0 (by omega)).2.2; simp at this
      | cons y b =>
        have e : x = y := by simpa using (h 0 (by omega)).1
        subst e
        simp only [lessL, if_true, List.drop_succ_cons]
        refine ih k (fun j hj => ?_)
        have := h (j + 1) (by omega)
        simpa using this
theorem lessL_at {a b : List UInt8} {k : Nat} {x y : UInt8} (h : ∀ j, j < k → a[j]? = b[j]? ∧ j < a.length ∧ j < b.length) (hx : a[k]? = some x) (hy : b[k]? = some y) (hne : x ≠ y) : lessL a b = decide (x < y) := by
  rw [lessL_drop k h]
  obtain ⟨h1, e1⟩ := List.getElem?_eq_some_iff.1 hx
  obtain ⟨h2, e2⟩ := List.getElem?_eq_some_iff.1 hy
  rw [List.drop_eq_getElem_cons h1, List.drop_eq_getElem_cons h2, e1, e2]
  simp [lessL, hne]
theorem lessL_end {a b : List UInt8} {k : Nat} (h : ∀ j, j < k → a[j]? = b[j]? ∧ j < a.length ∧ j < b.length) (he : a.length ≤ k ∨ b.length ≤ k) : lessL a b = decide (a.length < b.length) := by
  rw [lessL_drop k h]
  have hl : k ≤ a.length ∧ k ≤ b.length := by
    cases k with
    | zero => omega
    | succ k => have := h k (by omega); omega
  rcases he with he | he
  · have e : a.drop k = [] := List.drop_eq_nil_of_le he
    rw [e]
    by_cases h2 : b.length ≤ k
    · rw [List.drop_eq_nil_of_le h2]
      simp [lessL]; omega
    · rw [List.drop_eq_getElem_cons (by omega)]
      simp [lessL]; omega
  · have e : b.drop k = [] := List.drop_eq_nil_of_le he
    rw [e]
    by_cases h2 : a.length ≤ k
    · rw [List.drop_eq_nil_of_le h2]
      simp [lessL]; omega
    · rw [List.drop_eq_getElem_cons (by omega)]
      simp [lessL]; omega

def less (a b : ByteArray) : Bool := lessL a.data.toList b.data.toList

theorem byte? (s : ByteArray) (k : Nat) (h : k < s.size) : s.data.toList[k]? = some s[k] := by
  have h' : k < s.data.toList.length := by rw [Array.length_toList]; exact h
  rw [List.getElem?_eq_getElem h']
  rfl
/-- The first k bytes agree. -/
def Same (a b : ByteArray) (k : Nat) : Prop := ∀ j, j < k → a.data.toList[j]? = b.data.toList[j]? ∧ j < a.data.toList.length ∧ j < b.data.toList.length
theorem same_succ {a b : ByteArray} {k : Nat} (h : Same a b k) (ha : k < a.size) (hb : k < b.size) (e : (a[k].toNat : Int) = (b[k].toNat : Int)) : Same a b (k + 1) := by
  intro j hj
  by_cases ej : j = k
  · subst ej
    refine ⟨?_, by rw [Array.length_toList]; exact ha, by rw [Array.length_toList]; exact hb⟩
    rw [byte? a j ha, byte? b j hb]
    have : a[j] = b[j] := UInt8.toNat_inj.1 (by omega)
    rw [this]
  · exact h j (by omega)
theorem less_at {a b : ByteArray} {k : Nat} (h : Same a b k) (ha : k < a.size) (hb : k < b.size) (e : (a[k].toNat : Int) ≠ (b[k].toNat : Int)) : less a b = decide ((a[k].toNat : Int) < (b[k].toNat : Int)) := by
  have hne : a[k] ≠ b[k] := fun e' => e (by rw [e'])
  unfold less
  rw [lessL_at h (byte? a k ha) (byte? b k hb) hne]
  simp [UInt8.lt_iff_toNat_lt]
theorem less_end {a b : ByteArray} {k : Nat} (h : Same a b k) (he : a.size ≤ k ∨ b.size ≤ k) : less a b = decide ((a.size : Int) < (b.size : Int)) := by
  unfold less
  rw [lessL_end h (by rw [Array.length_toList, Array.length_toList]; exact he), Array.length_toList, Array.length_toList]
  show decide (a.size < b.size) = _
  exact decide_eq_decide.2 (by omega)

set_option maxHeartbeats 1000000 in
theorem less_any (a b : ByteArray) (w : World) (ha : a.size ≤ 9223372036854775807) :
    Calls Try.prog 10 #[.string a, .string b] w fun e w' => e = .returned (.bool (less a b)) ∧ ∃ q, w' = w.drewN q := by
  go_enter Try.func10, Try.ntmps10
  go_wp2
  go_loopw [5] (fun i wr => ∃ k : Nat, k ≤ a.size ∧ i = .int .i64 k ∧ Hid (Same a b k) ∧ Hid (∃ q, wr = w.drewN q)) (fun i _ => a.size - (intOf i).toNat)
  case atStart => exact ⟨0, Nat.zero_le _, rfl, fun j h => by omega, 0, rfl⟩
  case round =>
    obtain ⟨k, hk, rfl, hall, hq⟩ := hrel
    by_cases hlt : k < a.size ∧ k < b.size
    · obtain ⟨hla, hlb⟩ := hlt
      have hkz : (k : Int) < (a.size : Int) := by omega
      have hkzb : (k : Int) < (b.size : Int) := by omega
      have hk0 : (0 : Int) ≤ (k : Int) := by omega
      by_cases h : (a[k].toNat : Int) = (b[k].toNat : Int)
      · have HS := hide (same_succ hall.out hla hlb h)
        have hb : ((a[k].toNat : Int) != (b[k].toNat : Int)) = false := by simpa using h
        clear h
        go_wp2
        go_quiet (fail)
        go_wp2
        go_roundw
        case rel =>
          refine ⟨k + 1, by omega, by go_num, HS.out, ?_⟩
          obtain ⟨q, hq⟩ := hq.out
          exact ⟨q + nq, by rw [hq, World.drewN_drewN]⟩
        case measure => simp [intOf]; omega
      · have HL := hide (less_at hall.out hla hlb h)
        have hb : ((a[k].toNat : Int) != (b[k].toNat : Int)) = true := by simpa using h
        clear h
        go_wp2
        go_quiet (fail)
        go_wp2
        go_quiet (fail)
        go_wp2
        go_ret
        refine ⟨ret_bool ?_, ?_⟩
        · rw [HL.out]
          simp
        · obtain ⟨q, hq⟩ := hq.out
          rw [hq]; simp only [World.drewN_drewN]; exact ⟨_, rfl⟩
    · have HL := hide (less_end hall.out (by omega))
      by_cases hla : k < a.size
      · have hlb : ¬ k < b.size := by omega
        clear hlt
        go_wp2
        go_ret
        exact ⟨ret_bool (by rw [HL.out]; simp), hq.out⟩
      · clear hlt
        go_wp2
        go_ret
        exact ⟨ret_bool (by rw [HL.out]; simp), hq.out⟩

/-! ### zzNamesDomain -/
structure Dom (n0 n1 n2 n3 n4 n5 : Nat) (N : Nat → Int) : Prop where
  e2 : n2 = n1
  e3 : n3 = n1
  e4 : n4 = n1
  e5 : n5 = n1
  hN : ∀ i, i < n1 → 0 ≤ N i ∧ N i < n0

set_option maxHeartbeats 1000000 in
theorem domain_any (a0 a1 a2 a3 a4 a5 : Option Addr) (n0 n1 n2 n3 n4 n5 c0 c1 c2 c3 c4 c5 : Nat) (N : Nat → Int) (w : World) (hn : n1 ≤ 1048576) (hA : Arr w a1 n1 (fun i => .int .i64 (N i))) :
    Calls Try.prog 9 #[.slice a0 n0 c0, .slice a1 n1 c1, .slice a2 n2 c2, .slice a3 n3 c3, .slice a4 n4 c4, .slice a5 n5 c5] w (BPost (Dom n0 n1 n2 n3 n4 n5 N) w) := by
  obtain ⟨b, o, ha, hc⟩ := hA
  have HA := hide ha
  have HC := hide hc
  clear ha hc
  by_cases he : n2 = n1 ∧ n3 = n1 ∧ n4 = n1 ∧ n5 = n1
  · have HE := hide he
    have b2 : ((n2 : Int) != (n1 : Int)) = false := by simp; omega
    have b3 : ((n3 : Int) != (n1 : Int)) = false := by simp; omega
    have b4 : ((n4 : Int) != (n1 : Int)) = false := by simp; omega
    have b5 : ((n5 : Int) != (n1 : Int)) = false := by simp; omega
    clear he
    go_enter Try.func9, Try.ntmps9
    go_wp2
    go_loop [14] (fun i => ∃ k : Nat, k ≤ n1 ∧ i = .int .i64 k ∧ Hid (∀ i, i < k → 0 ≤ N i ∧ N i < n0)) (fun i => n1 - (intOf i).toNat)
    case atStart => exact ⟨0, Nat.zero_le _, rfl, fun i h => by omega⟩
    case round =>
      obtain ⟨k, hk, rfl, hall⟩ := hrel
      by_cases hlt : k < n1
      · obtain rfl := HA.out (by omega)
        have g0 := HC.out k hlt
        by_cases h0 : N k < 0
        · go_wp2
          go_ret
          exact bp_no
        by_cases h1 : N k < n0
        · go_wp2
          go_round
          case rel =>
            refine ⟨k + 1, by omega, by go_num, fun i h => ?_⟩
            by_cases e : i = k
            · subst e; omega
            · exact hall.out i (by omega)
          case measure => simp [intOf]; omega
        · go_wp2
          go_ret
          exact bp_no
      · go_wp2
        go_ret
        exact ⟨true, rfl, fun _ => ⟨HE.out.1, HE.out.2.1, HE.out.2.2.1, HE.out.2.2.2, fun i h => hall.out i (by omega)⟩, rfl⟩
  · cases b2 : ((n2 : Int) != (n1 : Int)) with
    | true =>
      go_enter Try.func9, Try.ntmps9
      go_wp2
      all_goals (go_ret; exact bp_no)
    | false =>
    cases b3 : ((n3 : Int) != (n1 : Int)) with
    | true =>
      go_enter Try.func9, Try.ntmps9
      go_wp2
      all_goals (go_ret; exact bp_no)
    | false =>
    cases b4 : ((n4 : Int) != (n1 : Int)) with
    | true =>
      go_enter Try.func9, Try.ntmps9
      go_wp2
      all_goals (go_ret; exact bp_no)
    | false =>
    cases b5 : ((n5 : Int) != (n1 : Int)) with
    | true =>
      go_enter Try.func9, Try.ntmps9
      go_wp2
      all_goals (go_ret; exact bp_no)
    | false =>
      simp at b2 b3 b4 b5
      exact absurd ⟨by omega, by omega, by omega, by omega⟩ he

/-! ### zzHasString -/
theorem string_eq (a b : ByteArray) : (a.toList == b.toList) = true ↔ a = b := by
  rw [beq_iff_eq, Lib.toList_data, Lib.toList_data]
  exact ⟨fun h => by cases a; cases b; simp_all [Array.toList_inj], fun h => by rw [h]⟩

def HasPost (m : Nat) (G : Nat → ByteArray) (x : ByteArray) (w : World) (e : Ending) (w' : World) : Prop := ∃ r : Bool, e = .returned (.bool r) ∧ (r = true ↔ ∃ i, i < m ∧ G i = x) ∧ w' = w
set_option maxHeartbeats 400000 in
theorem has_any (a : Option Addr) (m c : Nat) (G : Nat → ByteArray) (x : ByteArray) (w : World) (hm : m ≤ 1048576) (hA : Arr w a m (fun i => .string (G i))) :
    Calls Try.prog 15 #[.slice a m c, .string x] w (HasPost m G x w) := by
  obtain ⟨b, o, ha, hc⟩ := hA
  have HA := hide ha
  have HC := hide hc
  clear ha hc
  go_enter Try.func15, Try.ntmps15
  go_wp2
  go_loop [5] (fun i => ∃ k : Nat, k ≤ m ∧ i = .int .i64 k ∧ Hid (∀ i, i < k → G i ≠ x)) (fun i => m - (intOf i).toNat)
  case atStart => exact ⟨0, Nat.zero_le _, rfl, fun i h => by omega⟩
  case round =>
    obtain ⟨k, hk, rfl, hall⟩ := hrel
    by_cases hlt : k < m
    · obtain rfl := HA.out (by omega)
      have g0 := HC.out k hlt
      cases hb : ((G k).toList == x.toList) with
      | true =>
        have HB := hide ((string_eq _ _).1 hb)
        go_wp2
        go_ret
        exact ⟨true, rfl, ⟨fun _ => ⟨k, hlt, HB.out⟩, fun _ => rfl⟩, rfl⟩
      | false =>
        have HB : Hid (G k ≠ x) := fun e => by have := (string_eq (G k) x).2 e; rw [hb] at this; exact Bool.false_ne_true this
        go_wp2
        go_round
        case rel =>
          refine ⟨k + 1, by omega, by go_num, fun i h => ?_⟩
          by_cases e : i = k
          · subst e; exact HB.out
          · exact hall.out i (by omega)
        case measure => simp [intOf]; omega
    · go_wp2
      go_ret
      exact ⟨false, rfl, ⟨fun h => (Bool.false_ne_true h).elim, fun ⟨i, h, e⟩ => absurd e (hall.out i (by omega))⟩, rfl⟩

/-! ### zzSameStrings: where the two hold the same -/
set_option maxHeartbeats 400000 in
theorem same_any (a a' : Option Addr) (m c c' : Nat) (G : Nat → ByteArray) (w : World) (hm : m ≤ 1048576) (hA : Arr w a m (fun i => .string (G i))) (hA' : Arr w a' m (fun i => .string (G i))) :
    Calls Try.prog 19 #[.slice a m c, .slice a' m c'] w fun e w' => e = .returned (.bool true) ∧ ∃ q, w' = w.drewN q := by
  obtain ⟨b, o, ha, hc⟩ := hA
  obtain ⟨b', o', ha', hc'⟩ := hA'
  have HA := hide ha
  have HC := hide hc
  have HA' := hide ha'
  have HC' := hide hc'
  clear ha hc ha' hc'
  go_enter Try.func19, Try.ntmps19
  go_wp2
  go_loopw [5] (fun i wr => ∃ k : Nat, k ≤ m ∧ i = .int .i64 k ∧ ∃ q, wr = w.drewN q) (fun i _ => m - (intOf i).toNat)
  case atStart => exact ⟨0, Nat.zero_le _, rfl, 0, rfl⟩
  case round =>
    obtain ⟨k, hk, rfl, q, hq⟩ := hrel
    by_cases hlt : k < m
    · obtain rfl := HA.out (by omega)
      obtain rfl := HA'.out (by omega)
      have g0 : wr.cell? ⟨b, o + k, none⟩ = some (.string (G k)) := by rw [hq]; exact HC.out k hlt
      have g1 : wr.cell? ⟨b', o' + k, none⟩ = some (.string (G k)) := by rw [hq]; exact HC'.out k hlt
      have HQ := hide hq
      clear hq
      have hkz : (k : Int) < (m : Int) := by omega
      have hk0 : (0 : Int) ≤ (k : Int) := by omega
      go_wp2
      go_quiet (fail)
      go_wp2
      go_roundw
      case rel => exact ⟨k + 1, by omega, by go_num, q + nq, by rw [HQ.out, World.drewN_drewN]⟩
      case measure => simp [intOf]; omega
    · go_wp2
      go_ret
      exact ⟨rfl, q, rfl⟩

end Go.Proofs.Qxb6601879a
