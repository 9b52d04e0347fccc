/-
  No cell of these rows narrows 'for every input' (looked for: loops, veiled, ifaces, maps, wideKeys, modest, calm, conditions, laid).
  DERIVED. THE GIVEN ROWS OF THIS SEAT. 5 by the template 'for every input the law returns true; each argument reads behind the call as it read before'; 0 by the template 'total and deterministic' (their statements: Qxb6601761aTotals.lean).
  GIVEN WITH THE SEED: the statements are not yours to turn. If you find one false, say at which input.
  Laid BY PROGRAM, IN A SANDBOX (cutbox-rows.mjs): the forced cells as the released guide's own fill.sh prints them over the translation 4fa2240a3bbb2119… (all of the seat's roots in one cut). By AI agents, Wed Nov 11 2026. No macro, syntax, notation, axiom, sorry.
-/
import Derived.Test.Qxb6601761aChecked
import GoSem.Claim
import GoSem.ClaimJoined
import GoSem.ClaimMapViews
import Derived.JoinedTies
import Derived.KernelRfl
namespace Go.Proofs.Qxb6601761a
/- THE CELL 'sum', in the pinned program and in every row, IS THE sha256 OF THE DUMP (.gsa) THAT Qxb6601761aProg.lean LOADS. Nothing in Lean hashes anything: it is a label: what it is worth is what the hold of that sum in a sandbox is worth. -/
noncomputable def Try.pinned : Pinned := { name := "qxb6601761a", sum := "4fa2240a3bbb2119e31f9496c365b43e7d6e6fa0121643b9243d654099a497bb", checked := Try.checked }
namespace Rows
def none {H : Type} : Left H := { results := [], args := [] }

/-- 'zzlaws_protocol_b1.FnReadSeatExact': WHATEVER THE INPUT: true; the input reads as it did. -/
def fnReadSeatExactSpec : ChangeSpec := { name := "fnReadSeatExact", fn := fun _ => fun
  | [d] => { results := [.lit (.bool true)], args := [d] }
  | _ => none }
def fnReadSeatExactRow : OpenClaim := { program := "qxb6601761a", sum := "4fa2240a3bbb2119e31f9496c365b43e7d6e6fa0121643b9243d654099a497bb", func := "example.com/moonmoot/moonmoot/zzlaws_protocol_b1.FnReadSeatExact", spec := "fnReadSeatExact", apart := false }
def FnReadSeatExactSaid : Prop := fnReadSeatExactRow.holds Try.pinned (OpenSpec.ofChange fnReadSeatExactSpec)

/-- ITS FALSE NEIGHBOUR: 'it returns false'. Refute it at one input. -/
def fnReadSeatExactWrong : ChangeSpec := { name := "fnReadSeatExact", fn := fun _ => fun
  | [d] => { results := [.lit (.bool false)], args := [d] }
  | _ => none }
def FnReadSeatExactWrongFalsely : Prop := fnReadSeatExactRow.holds Try.pinned (OpenSpec.ofChange fnReadSeatExactWrong)

/-- 'zzlaws_protocol_b1.FnReadSeatNamesSortInSeatOrder': WHATEVER THE INPUT: true; the input reads as it did. -/
def fnReadSeatNamesSortInSeatOrderSpec : ChangeSpec := { name := "fnReadSeatNamesSortInSeatOrder", fn := fun _ => fun
  | [d1, d2] => { results := [.lit (.bool true)], args := [d1, d2] }
  | _ => none }
def fnReadSeatNamesSortInSeatOrderRow : OpenClaim := { program := "qxb6601761a", sum := "4fa2240a3bbb2119e31f9496c365b43e7d6e6fa0121643b9243d654099a497bb", func := "example.com/moonmoot/moonmoot/zzlaws_protocol_b1.FnReadSeatNamesSortInSeatOrder", spec := "fnReadSeatNamesSortInSeatOrder", apart := false }
def FnReadSeatNamesSortInSeatOrderSaid : Prop := fnReadSeatNamesSortInSeatOrderRow.holds Try.pinned (OpenSpec.ofChange fnReadSeatNamesSortInSeatOrderSpec)

/-- ITS FALSE NEIGHBOUR: 'it returns false'. Refute it at one input. -/
def fnReadSeatNamesSortInSeatOrderWrong : ChangeSpec := { name := "fnReadSeatNamesSortInSeatOrder", fn := fun _ => fun
  | [d1, d2] => { results := [.lit (.bool false)], args := [d1, d2] }
  | _ => none }
def FnReadSeatNamesSortInSeatOrderWrongFalsely : Prop := fnReadSeatNamesSortInSeatOrderRow.holds Try.pinned (OpenSpec.ofChange fnReadSeatNamesSortInSeatOrderWrong)

/-- 'zzlaws_protocol_b1.FnFindMentionExact': WHATEVER THE INPUT: true; the input reads as it did. -/
def fnFindMentionExactSpec : ChangeSpec := { name := "fnFindMentionExact", fn := fun _ => fun
  | [d1, d2] => { results := [.lit (.bool true)], args := [d1, d2] }
  | _ => none }
def fnFindMentionExactRow : OpenClaim := { program := "qxb6601761a", sum := "4fa2240a3bbb2119e31f9496c365b43e7d6e6fa0121643b9243d654099a497bb", func := "example.com/moonmoot/moonmoot/zzlaws_protocol_b1.FnFindMentionExact", spec := "fnFindMentionExact", inPlace := ["internal/bytealg.IndexByteString", "internal/bytealg.IndexString"], named := ["internal/bytealg.MaxLen"], apart := false }
def FnFindMentionExactSaid : Prop := fnFindMentionExactRow.holds Try.pinned (OpenSpec.ofChange fnFindMentionExactSpec)

/-- ITS FALSE NEIGHBOUR: 'it returns false'. Refute it at one input. -/
def fnFindMentionExactWrong : ChangeSpec := { name := "fnFindMentionExact", fn := fun _ => fun
  | [d1, d2] => { results := [.lit (.bool false)], args := [d1, d2] }
  | _ => none }
def FnFindMentionExactWrongFalsely : Prop := fnFindMentionExactRow.holds Try.pinned (OpenSpec.ofChange fnFindMentionExactWrong)

/-- 'zzlaws_protocol_b1.FnFindMentionMonotoneInSeats': WHATEVER THE INPUT: true; the input reads as it did. -/
def fnFindMentionMonotoneInSeatsSpec : ChangeSpec := { name := "fnFindMentionMonotoneInSeats", fn := fun _ => fun
  | [d1, d2, d3] => { results := [.lit (.bool true)], args := [d1, d2, d3] }
  | _ => none }
def fnFindMentionMonotoneInSeatsRow : OpenClaim := { program := "qxb6601761a", sum := "4fa2240a3bbb2119e31f9496c365b43e7d6e6fa0121643b9243d654099a497bb", func := "example.com/moonmoot/moonmoot/zzlaws_protocol_b1.FnFindMentionMonotoneInSeats", spec := "fnFindMentionMonotoneInSeats", inPlace := ["internal/bytealg.IndexByteString", "internal/bytealg.IndexString"], named := ["internal/bytealg.MaxLen"], apart := false }
def FnFindMentionMonotoneInSeatsSaid : Prop := fnFindMentionMonotoneInSeatsRow.holds Try.pinned (OpenSpec.ofChange fnFindMentionMonotoneInSeatsSpec)

/-- ITS FALSE NEIGHBOUR: 'it returns false'. Refute it at one input. -/
def fnFindMentionMonotoneInSeatsWrong : ChangeSpec := { name := "fnFindMentionMonotoneInSeats", fn := fun _ => fun
  | [d1, d2, d3] => { results := [.lit (.bool false)], args := [d1, d2, d3] }
  | _ => none }
def FnFindMentionMonotoneInSeatsWrongFalsely : Prop := fnFindMentionMonotoneInSeatsRow.holds Try.pinned (OpenSpec.ofChange fnFindMentionMonotoneInSeatsWrong)

/-- 'zzlaws_protocol_b1.FnFindMentionStableUnderAppend': WHATEVER THE INPUT: true; the input reads as it did. -/
def fnFindMentionStableUnderAppendSpec : ChangeSpec := { name := "fnFindMentionStableUnderAppend", fn := fun _ => fun
  | [d1, d2, d3] => { results := [.lit (.bool true)], args := [d1, d2, d3] }
  | _ => none }
def fnFindMentionStableUnderAppendRow : OpenClaim := { program := "qxb6601761a", sum := "4fa2240a3bbb2119e31f9496c365b43e7d6e6fa0121643b9243d654099a497bb", func := "example.com/moonmoot/moonmoot/zzlaws_protocol_b1.FnFindMentionStableUnderAppend", spec := "fnFindMentionStableUnderAppend", inPlace := ["internal/bytealg.IndexByteString", "internal/bytealg.IndexString"], named := ["internal/bytealg.MaxLen"], apart := false }
def FnFindMentionStableUnderAppendSaid : Prop := fnFindMentionStableUnderAppendRow.holds Try.pinned (OpenSpec.ofChange fnFindMentionStableUnderAppendSpec)

/-- ITS FALSE NEIGHBOUR: 'it returns false'. Refute it at one input. -/
def fnFindMentionStableUnderAppendWrong : ChangeSpec := { name := "fnFindMentionStableUnderAppend", fn := fun _ => fun
  | [d1, d2, d3] => { results := [.lit (.bool false)], args := [d1, d2, d3] }
  | _ => none }
def FnFindMentionStableUnderAppendWrongFalsely : Prop := fnFindMentionStableUnderAppendRow.holds Try.pinned (OpenSpec.ofChange fnFindMentionStableUnderAppendWrong)

end Rows
end Go.Proofs.Qxb6601761a
