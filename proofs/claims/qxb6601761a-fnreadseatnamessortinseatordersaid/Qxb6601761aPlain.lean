/-
  PLAIN: what a seat name is; no Go in sight.
-/
import Derived.Lib.Strings
namespace Go.Proofs.Qxb6601761a.P

def dg (c : UInt8) : Bool := 48 ≤ c && c ≤ 57
/-- The two digits read as a number. -/
def num (h o : UInt8) : Int := ((h.toNat : Int) - 48) * 10 + ((o.toNat : Int) - 48)
/-- What a name of a seat comes to: its seat, and whether it is one. -/
def seat : List UInt8 → Int × Bool
  | [65, 103, 101, 110, 116, 91, h, o, 93] => if dg h && dg o then (num h o, num h o != 0) else (0, false)
  | _ => (0, false)

def name (h o : UInt8) : List UInt8 := [65, 103, 101, 110, 116, 91, h, o, 93]

theorem seat_name (h o : UInt8) : seat (name h o) = if dg h && dg o then (num h o, num h o != 0) else (0, false) := rfl
theorem seat_other (l : List UInt8) (hl : ∀ h o, l ≠ name h o) : seat l = (0, false) := by
  unfold seat
  split
  · rename_i h o
    exact absurd rfl (hl h o)
  · rfl

def pre : List UInt8 := [65, 103, 101, 110, 116, 91]
def suf : List UInt8 := [93]

/-- Cut at both ends, two bytes left: it is a name. -/
theorem name_of_cuts (l : List UInt8) (h1 : Lib.hasPrefix l pre = true) (h2 : Lib.hasSuffix (Lib.trimPrefix l pre) suf = true)
    (h3 : (Lib.trimSuffix (Lib.trimPrefix l pre) suf).length = 2) : ∃ h o, l = name h o ∧ Lib.trimSuffix (Lib.trimPrefix l pre) suf = [h, o] := by
  have e1 : Lib.trimPrefix l pre = l.drop 6 := by unfold Lib.trimPrefix; rw [if_pos h1]; rfl
  have e2 : Lib.trimSuffix (Lib.trimPrefix l pre) suf = (l.drop 6).take ((l.drop 6).length - 1) := by rw [e1] at h2 ⊢; unfold Lib.trimSuffix; rw [if_pos h2]; rfl
  obtain ⟨r, hr⟩ := List.isPrefixOf_iff_prefix.1 h1
  obtain ⟨q, hq⟩ := List.isSuffixOf_iff_suffix.1 h2
  rw [e1] at hq
  have hd : l.drop 6 = r := by rw [← hr]; rfl
  rw [hd] at hq e2
  rw [e2] at h3 ⊢
  subst hq
  simp [suf] at h3
  match q, h3 with
  | [h, o], _ => exact ⟨h, o, by rw [← hr]; rfl, rfl⟩

theorem cuts_of_name (h o : UInt8) : Lib.hasPrefix (name h o) pre = true ∧ Lib.hasSuffix (Lib.trimPrefix (name h o) pre) suf = true ∧ Lib.trimSuffix (Lib.trimPrefix (name h o) pre) suf = [h, o] := by
  refine ⟨by simp [Lib.hasPrefix, name, pre], ?_, ?_⟩
  · simp [Lib.trimPrefix, Lib.hasPrefix, name, pre, Lib.hasSuffix, suf]
    exact ⟨[h, o], rfl⟩
  · have h1 : Lib.trimPrefix (name h o) pre = [h, o, 93] := by simp [Lib.trimPrefix, Lib.hasPrefix, name, pre]
    rw [h1]
    have h2 : Lib.hasSuffix [h, o, 93] suf = true := by
      simp [Lib.hasSuffix, suf]
      exact ⟨[h, o], rfl⟩
    unfold Lib.trimSuffix
    rw [if_pos h2]
    rfl

end Go.Proofs.Qxb6601761a.P
