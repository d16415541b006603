/- Small facts for the walks of this seat: a slice of strings that came in, read without a case for nil. -/
import Derived.Test.Qxb6615993aRows
import Derived.WalkKit
import Derived.WalkSpells
import Derived.WalkLawsBesides
import Derived.Maps.Own
import Derived.Maps.OwnSet
namespace Go.Proofs.Qxb6615993a
open Go.RowKit

/-- The place of element i of a slice that begins at a. -/
def pt (a : Option Addr) (i : Nat) : Addr := match a with | some p => p.add i | none => ⟨0, 0, none⟩

/-- The slice value with address a and n elements reads as the strings ss in w. -/
structure StrRow (w : World) (a : Option Addr) (n : Nat) (ss : List ByteArray) : Prop where
  len : ss.length = n
  addr : ∀ i, i < n → a ≠ none
  cells : ∀ i, i < n → w.cell? (pt a i) = some (.string (ss.getD i ByteArray.empty))
  sizes : ∀ s, s ∈ ss → s.size ≤ maxLen

theorem StrRow.keep {w w' : World} {a : Option Addr} {n : Nat} {ss : List ByteArray} (h : StrRow w a n ss) (hb : Below w.heap.size w w') : StrRow w' a n ss :=
  ⟨h.len, h.addr, fun i hi => (hb.cell (block_lt_of_cell (h.cells i hi))).trans (h.cells i hi), h.sizes⟩

theorem StrRow.size_at {w : World} {a : Option Addr} {n : Nat} {ss : List ByteArray} (h : StrRow w a n ss) (i : Nat) : (ss.getD i ByteArray.empty).size ≤ maxLen := by
  by_cases hi : i < ss.length
  · have e : ss.getD i ByteArray.empty = ss[i] := by simp [hi]
    rw [e]
    exact h.sizes _ (List.getElem_mem hi)
  · have e : ss.getD i ByteArray.empty = ByteArray.empty := by simp [List.getElem?_eq_none (Nat.le_of_not_lt hi)]
    rw [e]
    exact Nat.zero_le _

theorem Try.cells22 : Try.prog.cellsOf 22 = 1 := by kernel_rfl
theorem Try.cells9 : Try.prog.cellsOf 9 = 1 := by kernel_rfl
theorem Try.cells4 : Try.prog.cellsOf 4 = 1 := by kernel_rfl

theorem ix {a : Option Addr} {n c i : Nat} (ha : a ≠ none) (hi : i < n) (w : World) :
    (Instr.indexAt 22 (.slice a n c) (.int .i64 (i : Int))).run Try.prog w = .ok (.pointer (some (pt a i))) w := by
  obtain ⟨p, rfl⟩ := Option.ne_none_iff_exists'.1 ha
  have h9 : (sizeOf 9).run Try.prog w = .ok 1 w := by kernel_rfl
  simp [Instr.indexAt, run_underlying Try.underlying22, asIntOf, hi, h9, Result.andThen, pt]

end Go.Proofs.Qxb6615993a
