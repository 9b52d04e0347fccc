/-
  A builder's own address, to a raw pointer and back (copyCheck, builder.go:39).
-/
import Derived.Test.Qxb6601988aDoorShelf
import Derived.WalkKit
import Derived.WalkSpells
import Derived.WalkLawsBesides
import Derived.Below
import Derived.Outline
import Derived.Deep.OwnRows
import Derived.LoopTactic
import Derived.Laws.Externs
import Derived.Lib.FrozenHead2
import Derived.Lib.OthersKept
namespace Go.Proofs.Qxb6601988aDoor
open Go.RowKit

theorem hide {p : Prop} (h : p) : Hid p := h

theorem size31 : (Tryd.prog.info? 31).map (·.size) = some 2 := by kernel_rfl
theorem lies31 : liesAt Tryd.prog Tryd.prog.depth 31 (2 / Tryd.prog.cellsOf 31) 0 31 1 = true := by kernel_rfl

theorem to_raw (b : Nat) (w : World) (hsh : w.shape? b = some (31, 2)) : (convert 28 74 (.pointer (some ⟨b, 0, none⟩))).run Tryd.prog w = .ok (.pointer (some ⟨b, 0, none⟩)) w := by
  obtain ⟨j, hj, hjs⟩ := Option.map_eq_some_iff.1 size31
  have h1 := run_underlying Tryd.underlying28
  have h2 := run_underlying Tryd.underlying74
  simp only [convert, Sem.run_bind, h1, h2, Result.andThen]
  change Sem.run Tryd.prog (underlying 28 >>= _) w = _
  simp [h1, h2, Conv.seenAt, viewAt, cellsIn, hsh, sizeOf, typeInfo, hj, hjs]
theorem from_raw (b : Nat) (w : World) (hsh : w.shape? b = some (31, 2)) : (convert 74 28 (.pointer (some ⟨b, 0, none⟩))).run Tryd.prog w = .ok (.pointer (some ⟨b, 0, none⟩)) w := by
  obtain ⟨j, hj, hjs⟩ := Option.map_eq_some_iff.1 size31
  have h1 := run_underlying Tryd.underlying28
  have h2 := run_underlying Tryd.underlying74
  simp only [convert, Sem.run_bind, h1, h2, Result.andThen]
  change Sem.run Tryd.prog (underlying 74 >>= _) w = _
  have hl := lies31
  simp [h1, h2, Conv.seenAt, viewAt, hsh, variablesAt, hl, sizeOf, typeInfo, hj]

end Go.Proofs.Qxb6601988aDoor
