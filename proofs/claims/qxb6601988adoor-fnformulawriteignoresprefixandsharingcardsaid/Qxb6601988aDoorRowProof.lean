/-
  The row 'Rows.FnFormulaWriteIgnoresPrefixAndSharingSaid', over the walk.
-/
import Derived.Test.Qxb6601988aDoorTop
import Derived.Test.Qxb6601988aDoorOpened
import Derived.ProofKit
import Derived.LaidMore
import Derived.OpenShut
import Derived.ShutString
import Derived.Stop.Joined
import Derived.Stop.LaidErr
import Derived.Lib.LaidTab
import Derived.MakeChecks
import Derived.ChangeOld
import Derived.Below
namespace Go.Proofs.Qxb6601988aDoor
open Go.ChangeShapes Go.WideShapes Go.ChangeAt Go.RowKit
open Go.ChangeMaps (open_string shut_string)
set_option linter.unusedVariables false

theorem own : ownKnob Tryd.prog.godebug = none := by kernel_rfl
theorem laidOut : laidOutB Tryd.prog = true := by kernel_rfl
theorem gTab : Tryd.prog.globalNamed tabName = some 0 := by kernel_rfl
theorem tTab : (Tryd.prog.globals[0]?).map (·.type) = some 98 := by kernel_rfl
theorem cellsOf91 : Tryd.prog.cellsOf 91 = 1 := by kernel_rfl
theorem cellsOf98 : Tryd.prog.cellsOf 98 = 20 := by kernel_rfl

theorem agg_of {v a b c d e : Value} (h : v.cells.toList = [a, b, c, d, e]) : v = .agg #[a, b, c, d, e] := by
  cases v with
  | agg cs =>
    have e : cs = #[a, b, c, d, e] := by
      have h2 : cs.toList = [a, b, c, d, e] := h
      cases cs
      simp at h2
      rw [h2]
    rw [e]
  | _ => simp [Value.cells] at h

theorem laid_tail {P : Program} {l : List (String × DataW Unit)} {w : World} (h : laidMet P l w) : laidMet P l.tail w := by
  cases l with
  | nil => exact h
  | cons x r => exact h.tail
theorem tab_of {W : World} (h : laidMetH Tryd.prog Rows.fnFormulaWriteIgnoresPrefixAndSharingRow.laid W) : Lib.TabIs Tryd.prog W tabName .u64 Lib.pow10Tab := by
  rw [MakeChecks.laidMetH_plain _ _ _ (by kernel_rfl)] at h
  have h2 := laid_tail (laid_tail h)
  have e : Rows.fnFormulaWriteIgnoresPrefixAndSharingRow.laid.tail.tail = [(tabName, Lib.tabData .u64 Lib.pow10Tab)] := rfl
  rw [e] at h2
  exact Lib.tabIs_of_head gTab tTab Tryd.underlying98 Tryd.underlying91 cellsOf91 cellsOf98 h2

theorem door_met (os : Os) (args : Array Value) : laidMetH Tryd.prog Rows.fnFormulaWriteIgnoresPrefixAndSharingRow.laid ((World.doorLaid Tryd.prog 400 os).forCall (fun _ _ => 0) ⟨#[], args, []⟩).memory :=
  laidMetH_of_parts3 (fuel := 8) (laidMet_of_run' 8 (by kernel_rfl) (by kernel_rfl)) (by kernel_rfl) (by kernel_rfl)

set_option maxHeartbeats 1600000 in
set_option maxRecDepth 100000 in
theorem lifted (os : Os) (started : os.Started) (H : Type) (enc : TypeId × Value → H) :
    ReturnsInHanded {} Tryd.checked os 3 .any (fun w args => (Rows.fnFormulaWriteIgnoresPrefixAndSharingSpec.pre enc Tryd.prog Tryd.f3 [] false w args ∧ laidMetH Tryd.prog Rows.fnFormulaWriteIgnoresPrefixAndSharingRow.laid w) ∧ sizedMet enc Tryd.prog Tryd.f3 (OpenSpec.ofChange Rows.fnFormulaWriteIgnoresPrefixAndSharingSpec) false w args)
      (Rows.fnFormulaWriteIgnoresPrefixAndSharingSpec.post enc Tryd.prog Tryd.f3 false true false false) := by
  refine returnsInHanded_of_change_and (C := Tryd.checked) (X := fun w _ => laidMetH Tryd.prog Rows.fnFormulaWriteIgnoresPrefixAndSharingRow.laid w) (fun _ _ _ hh h => h.of_heap hh) own started (by kernel_rfl) Tryd.func3
    (ChangeSpec.witness_shaped (enc := enc) (C := Tryd.checked) (os := os) (X := fun w _ => laidMetH Tryd.prog Rows.fnFormulaWriteIgnoresPrefixAndSharingRow.laid w) false (World.doorLaid Tryd.prog 400 os) #[.agg #[.int .i64 0, .pointer none, .slice none 0 0, .slice none 0 0, .bool false], .string ByteArray.empty] 8 rfl (World.shaped_of_RefB (by kernel_rfl) (by kernel_rfl)) (by kernel_rfl) (by kernel_rfl) (by kernel_rfl) (door_met os _)) ?_
  intro W base args ds gs before hval0 hW _ _ hL _
  have hval : ∀ (j : Nat) t v, Tryd.f3.params[j]? = some t → args[j]? = some v → Value.okWide Tryd.prog W .any base t v := hval0
  have hW' := hW
  obtain ⟨p, q, hA0, hV, rfl, hfz, hnd⟩ := hW
  have hA : DataW.TrodAll enc Tryd.prog W 0 (fun _ => true) true Tryd.f3.params.toList args.toList ds p := hA0
  rw [Tryd.params3] at hA hval
  obtain ⟨v0, v1, d0, d1, p0, p1, rfl, rfl, rfl, h0, h1⟩ := trodAll_two hA
  obtain ⟨rfl, rfl⟩ := trodVars_none hV
  obtain ⟨pre, rfl, rfl, rfl, w1⟩ := open_string Tryd.underlying9 (hval 1 9 v1 rfl rfl) h1
  have k0 := h0
  have lt0 : ∀ x ∈ p0, x.block < W.heap.size := by obtain ⟨m, hm⟩ := k0; exact DataW.trod_lt m _ _ _ hm
  obtain ⟨op, s, a, xs, sh, hc, n, t, hF, hok⟩ := opened h0
  obtain rfl := agg_of hc
  clear hA0 hval0
  refine (top n t op s a xs sh pre W hF hok (tab_of hL)).mono fun e W' ⟨he, bel⟩ => ?_
  subst he
  exact ⟨_, rfl, _, _, _, [], _, [], hW', trodAll_mk1 (shut_bool Tryd.underlying4 _), (trodAll_cons_mk (Below.trod laidOut (by kernel_rfl) (of_decide_eq_true (by kernel_rfl)) k0 bel lt0) (trodAll_cons_mk (shut_string Tryd.underlying9 w1) trodAll_mk0)), rfl, bel.frame _, fun h => by cases h⟩

theorem row_holds : Rows.FnFormulaWriteIgnoresPrefixAndSharingSaid :=
  OpenClaim.holds_of_wide 3 Tryd.f3 rfl rfl rfl rfl rfl rfl rfl ⟨rfl, rfl, rfl, rfl, rfl⟩ rfl rfl rfl rfl rfl (by kernel_rfl) Tryd.func3 (by kernel_rfl)
    (of_decide_eq_true (by kernel_rfl)) (by unfold Func.isWrapper; first | (rw [if_pos (by decide +kernel)]; kernel_rfl) | (rw [if_neg (by decide +kernel)]; exact ⟨rfl, rfl⟩))
    (fun os started H enc _ => lifted os started H enc)

end Go.Proofs.Qxb6601988aDoor
