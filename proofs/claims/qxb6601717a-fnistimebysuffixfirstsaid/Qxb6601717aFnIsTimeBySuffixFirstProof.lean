/-
  THE STATEMENT 'Rows.FnIsTimeBySuffixFirstSaid': the frame is the tool's (proof-skeleton.mjs), the walk is filled in.
-/
import Derived.Test.Qxb6601717aRows
import Derived.Test.Qxb6601717aModel
import Derived.WalkKit
import Derived.ProofKit
import Derived.OpenShut
import Derived.ShutString
import Derived.ChangeOld
import Derived.Below
namespace Go.Proofs.Qxb6601717a.fnIsTimeBySuffixFirst
open Go.ChangeShapes Go.WideShapes Go.ChangeAt Go.RowKit
open Go.ChangeMaps (open_string shut_string)
set_option linter.unusedVariables false

theorem own : ownKnob Try.prog.godebug = none := by kernel_rfl
theorem laidOut : laidOutB Try.prog = true := by kernel_rfl

/-- WHAT THE WALK IS TOLD OF A SLICE OF INTEGERS THAT CAME IN: it is nil; or it leads to a row of 'cap' cells, the numbers 'zs' (the first 'len' are its elements, the rest its spare room), each fitting its kind. -/
def IsRow (k : IntKind) (w : World) (a : Option Addr) (len cap : Nat) (zs : List Int) : Prop :=
  (a = none ∧ len = 0 ∧ cap = 0 ∧ zs = []) ∨
  ∃ x, a = some x ∧ len ≤ cap ∧ cap ≤ maxLen ∧ zs.length = cap ∧ (∀ i, i < zs.length → w.cell? (x.add i) = some (.int k (zs.getD i 0))) ∧ ∀ n ∈ zs, (Lit.int k n).wf = true

theorem eq_true {r1 r2 : Bool} {p : Prop} (h1 : r1 = true ↔ p) (h2 : r2 = true ↔ p) : (r1 == r2) = true := by
  have h := h1.trans h2.symm
  cases r1 <;> cases r2 <;> simp_all

theorem zzIsTime_nil (f : Nat → Int) (w : World) : Calls Try.prog 14 #[.slice none 0 0] w (IPost f 0 w) := by
  go_enter Try.func14, Try.ntmps14
  go_wp2_with fail
  refine (isTime_nil f w).mono ?_
  rintro e w1 ⟨r, rfl, hr, q, hq⟩
  have HR := hide hr
  have HQ := hide hq
  clear hr hq
  go_wp2
  go_ret
  exact ⟨r, rfl, HR.out, q, HQ.out⟩

theorem zzIsTime_any (g n : Nat) (f : Nat → Int) (w : World) (hn2 : n ≤ 1048576)
    (hc : ∀ i, i < n → w.cell? ⟨g, i, none⟩ = some (.int .u8 (f i))) :
    Calls Try.prog 14 #[.slice (some ⟨g, 0, none⟩) n n] w (IPost f n w) := by
  have hI : Calls Try.prog 21 #[.slice (some ⟨g, 0, none⟩) n n] w (IPost f n w) := by
    by_cases h : n < 19
    · exact isTime_short g n f w h
    · exact isTime_long g n f w (by omega) hn2 hc
  have HI := hide hI
  clear hI hc
  go_enter Try.func14, Try.ntmps14
  go_wp2_with fail
  refine HI.out.mono ?_
  rintro e w1 ⟨r, rfl, hr, q, hq⟩
  have HR := hide hr
  have HQ := hide hq
  clear hr hq
  go_wp2
  go_ret
  exact ⟨r, rfl, HR.out, q, HQ.out⟩

theorem since_below {w w' : World} (h : w.Since w.heap.size w') : Below w.heap.size w w' := ⟨h.os, h.tape, h.output, h.size, h.block⟩

/-! ### STEP 1: THE WALK: the Go text returns true, AND WRITES NOTHING THAT WAS THERE: 'Below w.heap.size w w'' (Derived/Below.lean: '.refl', '.alloc', '.drew', '.setCell' at a new block, '.trans'). Open each 'IsRow' by 'rcases' AHEAD of 'go_enter'; part every test ahead of the walk. -/
theorem walk (a0 : Option Addr) (len0 cap0 : Nat) (z0 : List Int) (w : World) (w0 : IsRow .u8 w a0 len0 cap0 z0) :
    Calls Try.prog 5 #[.slice a0 len0 cap0] w fun e w' => e = .returned (.bool true) ∧ Below w.heap.size w w' := by
  by_cases hbig : 1048576 < len0
  · go_enter Try.func5, Try.ntmps5
    go_wp2_with (go_at_call 13; refine (zzBytes_gt _ _ _ _ hbig).mono ?_; rintro e w' ⟨rfl, hw⟩; replace hw := hw.symm; subst hw)
    go_ret
    exact ⟨rfl, Below.refl _ _⟩
  have hle : len0 ≤ 1048576 := by omega
  rcases w0 with ⟨rfl, rfl, rfl, rfl⟩ | ⟨x, rfl, hl, hm, hz, hcell, hwz⟩
  · go_enter Try.func5, Try.ntmps5
    go_wp2_with fail
    refine (zzBytes_le _ _ _ _ hle).mono ?_
    rintro e w' ⟨rfl, hw⟩
    replace hw := hw.symm
    subst hw
    go_wp2_with fail
    refine (clone_nil _).mono ?_
    rintro e w' ⟨rfl, hw⟩
    replace hw := hw.symm
    subst hw
    go_wp2_with fail
    refine (zzIsTime_nil (fun _ => 0) _).mono ?_
    rintro e w1 ⟨r, rfl, hr, q, hq⟩
    have HR := hide hr
    have HQ := hide hq
    clear hr hq
    go_wp2_with fail
    refine (model_nil (fun _ => 0) _).mono ?_
    rintro e w2 ⟨r2, rfl, hr2, q2, hq2⟩
    have HE : Hid ((r == r2) = true) := eq_true HR.out hr2
    have HB : Hid (Below w.heap.size w w2) := by
      show Below w.heap.size w w2
      rw [hq2, HQ.out]
      exact below_drewN (below_drewN (Below.refl _ _) _) _
    clear hr2 hq2
    go_wp2
    go_ret
    exact ⟨ret_bool HE.out, HB.out⟩
  · have hx : ∃ b off, 0 < len0 → x = ⟨b, off, none⟩ := by
      obtain ⟨b, off, spot⟩ := x
      refine ⟨b, off, fun h => ?_⟩
      have hspot : spot = none := by simpa [Addr.add] using World.cell?_spot (hcell 0 (by omega))
      rw [hspot]
    obtain ⟨b, off, hx⟩ := hx
    have hc : ∀ i, i < len0 → w.cell? ⟨b, off + i, none⟩ = some (.int .u8 (z0.getD i 0)) := by
      intro i hi
      have h := hcell i (by omega)
      rw [hx (by omega)] at h
      rw [add_plain] at h
      exact h
    have hf : ∀ i, 0 ≤ z0.getD i 0 ∧ z0.getD i 0 ≤ 255 := fun i => by simpa using range_u8 hwz i
    clear hcell hwz hz
    have HC := hide hc
    have HX := hide hx
    clear hc hx
    go_enter Try.func5, Try.ntmps5
    go_wp2_with fail
    refine (zzBytes_le _ _ _ _ hle).mono ?_
    rintro e w' ⟨rfl, hw⟩
    replace hw := hw.symm
    subst hw
    go_wp2_with fail
    refine (clone_some x len0 cap0 b off (fun i => z0.getD i 0) w HX.out hle HC.out).mono ?_
    rintro e w1 ⟨rfl, hrow, hS⟩
    have HRow := hide hrow
    have HS := hide hS
    clear hrow hS
    go_wp2_with fail
    refine (zzIsTime_any w.heap.size len0 (fun i => z0.getD i 0) w1 hle (fun i hi => HRow.out.cell hi)).mono ?_
    rintro e w2 ⟨r, rfl, hr, q, hq⟩
    have HR := hide hr
    have HQ := hide hq
    clear hr hq
    go_wp2_with fail
    refine (model_any w.heap.size len0 (fun i => z0.getD i 0) w2 hle hf (fun i hi => by rw [HQ.out]; exact HRow.out.cell hi)).mono ?_
    rintro e w3 ⟨r2, rfl, hr2, q2, hq2⟩
    have HE : Hid ((r == r2) = true) := eq_true HR.out hr2
    have HB : Hid (Below w.heap.size w w3) := by
      show Below w.heap.size w w3
      rw [hq2, HQ.out]
      exact below_drewN (below_drewN (since_below HS.out) _) _
    clear hr2 hq2
    go_wp2
    go_ret
    exact ⟨ret_bool HE.out, HB.out⟩

/-! ### THE ROW's STEP: WRITTEN OUT: LEAVE IT -/
set_option maxRecDepth 100000 in
theorem lifted (os : Os) (started : os.Started) (H : Type) (enc : TypeId × Value → H) :
    ReturnsInHanded {} Try.checked os 5 .any (Rows.fnIsTimeBySuffixFirstSpec.pre6 enc Try.prog Try.f5 Rows.fnIsTimeBySuffixFirstRow.domain false) (Rows.fnIsTimeBySuffixFirstSpec.post enc Try.prog Try.f5 false true false false) := by
  refine returnsInHanded_of_change (C := Try.checked) own started (by kernel_rfl) Try.func5
    (ChangeSpec.witness6 (enc := enc) (C := Try.checked) false ⟨#[], #[.slice none 0 0], []⟩ 8 (by kernel_rfl) (by kernel_rfl) (by kernel_rfl) (by kernel_rfl)) ?_
  intro W base args ds gs before hval0 hW hcnd _
  have hval : ∀ (j : Nat) t v, Try.f5.params[j]? = some t → args[j]? = some v → Value.okWide Try.prog W .any base t v := hval0
  have hW' := hW
  obtain ⟨p, q, hA0, hV, rfl, hfz, hnd⟩ := hW
  have hA : DataW.TrodAll enc Try.prog W 0 (fun _ => true) true Try.f5.params.toList args.toList ds p := hA0
  rw [Try.params5] at hA hval
  obtain ⟨v0, vs0, d0, ds0, p0, q0, hargs, rfl, rfl, h0, r0⟩ := trodAll_cons hA
  obtain ⟨rfl, rfl, rfl⟩ := trodAll_nil r0
  obtain rfl : args = #[v0] := by cases args; simp_all
  obtain ⟨rfl, rfl⟩ := trodVars_none hV
  obtain ⟨a0, len0, cap0, rfl⟩ := okWide_slice Try.underlying22 (hval 0 22 v0 rfl rfl)
  have k0 := h0
  have lt0 : ∀ x ∈ p0, x.block < W.heap.size := by obtain ⟨m, hm⟩ := k0; exact DataW.trod_lt m _ _ _ hm
  obtain ⟨z0, w0⟩ : ∃ zs, IsRow .u8 W a0 len0 cap0 zs := by
    obtain ⟨fuel, hf⟩ := h0
    rcases open_ints Try.underlying22 Try.underlying5 (by kernel_rfl) hf with ⟨hcs, _⟩ | ⟨x, l, c, zs, hcs, _, hl, hm, hz, _, hcell, hwz⟩
    · simp [Value.cells] at hcs
      obtain ⟨rfl, rfl, rfl⟩ := hcs
      exact ⟨[], .inl ⟨rfl, rfl, rfl, rfl⟩⟩
    · simp [Value.cells] at hcs
      obtain ⟨rfl, rfl, rfl⟩ := hcs
      exact ⟨zs, .inr ⟨_, rfl, hl, hm, by simpa using hz, hcell, hwz⟩⟩
  clear hA0 hval0
  refine (walk a0 len0 cap0 z0 W w0).mono fun e W' ⟨he, bel⟩ => ?_
  subst he
  exact ⟨_, rfl, _, _, _, [], _, [], hW', trodAll_mk1 (shut_bool Try.underlying4 _), (trodAll_cons_mk (Below.trod laidOut (by kernel_rfl) (of_decide_eq_true (by kernel_rfl)) k0 bel lt0) trodAll_mk0), rfl, bel.frame _, fun h => by cases h⟩

theorem over : Rows.fnIsTimeBySuffixFirstRow.holds Try.pinned (OpenSpec.ofChange Rows.fnIsTimeBySuffixFirstSpec) :=
  OpenClaim.holds_of_wide 5 Try.f5 rfl rfl rfl rfl rfl rfl rfl ⟨rfl, rfl, rfl, rfl, rfl⟩ rfl rfl rfl rfl rfl (by kernel_rfl) Try.func5 (by kernel_rfl)
    (of_decide_eq_true (by kernel_rfl)) (by unfold Func.isWrapper; first | (rw [if_pos (by decide +kernel)]; kernel_rfl) | (rw [if_neg (by decide +kernel)]; exact ⟨rfl, rfl⟩))
    (fun os started H enc _ => lifted os started H enc)

/-- ████ THE STATEMENT ████ -/
theorem proved : Rows.FnIsTimeBySuffixFirstSaid := over
end Go.Proofs.Qxb6601717a.fnIsTimeBySuffixFirst
