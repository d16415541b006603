/- Slices of strings: those that came in (read without a case for nil), and copies of them. -/
import Derived.Test.Qxb6615952aBase
import Derived.Deep.OwnRows
import Derived.Laws.CopyOwn
namespace Go.Proofs.Qxb6615952a
open Go.RowKit

/-- The place of element i of a slice that begins at a. -/
def pt (a : Option Addr) (i : Nat) : Addr := match a with | some p => p.add i | none => ⟨0, 0, none⟩

/-- The slice value with address a and n elements reads as the strings ss in w. -/
structure StrRow (w : World) (a : Option Addr) (n : Nat) (ss : List ByteArray) : Prop where
  len : ss.length = n
  addr : ∀ i, i < n → a ≠ none
  cells : ∀ i, i < n → w.cell? (pt a i) = some (.string (ss.getD i ByteArray.empty))
  sizes : ∀ s, s ∈ ss → s.size ≤ maxLen

theorem StrRow.keep {w w' : World} {a : Option Addr} {n : Nat} {ss : List ByteArray} (h : StrRow w a n ss) (hb : Below w.heap.size w w') : StrRow w' a n ss :=
  ⟨h.len, h.addr, fun i hi => (hb.cell (block_lt_of_cell (h.cells i hi))).trans (h.cells i hi), h.sizes⟩

theorem StrRow.size_at {w : World} {a : Option Addr} {n : Nat} {ss : List ByteArray} (h : StrRow w a n ss) (i : Nat) : (ss.getD i ByteArray.empty).size ≤ maxLen := by
  by_cases hi : i < ss.length
  · have e : ss.getD i ByteArray.empty = ss[i] := by simp [hi]
    rw [e]
    exact h.sizes _ (List.getElem_mem hi)
  · have e : ss.getD i ByteArray.empty = ByteArray.empty := by simp [List.getElem?_eq_none (Nat.le_of_not_lt hi)]
    rw [e]
    exact Nat.zero_le _

theorem Try.cells22 : Try.prog.cellsOf 22 = 1 := by kernel_rfl
theorem Try.cells9 : Try.prog.cellsOf 9 = 1 := by kernel_rfl
theorem Try.cells4 : Try.prog.cellsOf 4 = 1 := by kernel_rfl

theorem ix {a : Option Addr} {n c i : Nat} (ha : a ≠ none) (hi : i < n) (w : World) :
    (Instr.indexAt 22 (.slice a n c) (.int .i64 (i : Int))).run Try.prog w = .ok (.pointer (some (pt a i))) w := by
  obtain ⟨p, rfl⟩ := Option.ne_none_iff_exists'.1 ha
  have h9 : (sizeOf 9).run Try.prog w = .ok 1 w := by kernel_rfl
  simp [Instr.indexAt, run_underlying Try.underlying22, asIntOf, hi, h9, Result.andThen, pt]

theorem Try.info9 : (Try.prog.info? 9).map (fun i => (i.zero, i.size, i.bytes)) = some (some (.string ByteArray.empty), 1, 16) := by kernel_rfl
theorem Try.size9 : (Try.prog.info? 9).map (·.size) = some 1 := by kernel_rfl

theorem mk22 (n : Nat) (hn : n ≤ 65537) (w : World) :
    (Instr.makeSlice 22 (.int .i64 (n : Int)) (.int .i64 (n : Int))).run Try.prog w = .ok (.slice (some ⟨w.heap.size, 0, none⟩) n n) (w.alloc (.cells (madeCells #[.string ByteArray.empty] n) 9)) :=
  run_make_row' (P := Try.prog) 22 9 (.string ByteArray.empty) 16 Try.underlying22 Try.info9 rfl .i64 .i64 n (by omega) (by omega) w

theorem pt_block (g i : Nat) : pt (some ⟨g, 0, none⟩) i = ⟨g, i, none⟩ := by
  simp only [pt, Addr.add]
  split
  · subst_vars; rfl
  · simp

/-- A row that is a whole block. -/
theorem strRow_block {w : World} {g n : Nat} {ss : List ByteArray} {C : Array Value} {t : TypeId} {fr : Nat × Nat} (hg : w.heap[g]? = some (.cells C t fr)) (hl : ss.length = n)
    (hc : ∀ i, i < n → C[i]? = some (.string (ss.getD i ByteArray.empty))) (hs : ∀ s, s ∈ ss → s.size ≤ maxLen) : StrRow w (some ⟨g, 0, none⟩) n ss := by
  refine ⟨hl, fun _ _ => by simp, fun i hi => ?_, hs⟩
  rw [pt_block, ← hc i hi]
  simp [World.cell?, hg]

theorem strs_one (ss : List ByteArray) : ∀ v, v ∈ ss.map Value.string → v.oneCell' = true := by
  intro v hv
  obtain ⟨s, _, rfl⟩ := List.mem_map.1 hv
  rfl

/-- A guard: the next operation is a call of the builtin copy. -/
theorem at_copy {P : Program} {ops : Array Oper} {rest : List Oper} {a : Act} {w : World} {Q : Exit → Act → World → Prop} {dst : Option Nat} {args : Array Operand} {ats : Array TypeId} {ty : TypeId} {pos : String} {after : Array Edge} {guard : Option (Nat × Bool)}
    (h : wpList P ops Q ({ dst := dst, op := Op.call { callee := .builtin .copy, args := args, argTypes := ats }, type := ty, pos := pos, after := after, guard := guard } :: rest) a w) :
    wpList P ops Q ({ dst := dst, op := Op.call { callee := .builtin .copy, args := args, argTypes := ats }, type := ty, pos := pos, after := after, guard := guard } :: rest) a w := h

/-- 'copy(new, row)': the new slice reads as the row does. -/
theorem wpList_copy_strs {w : World} {ops : Array Oper} {rest : List Oper} {o : Oper} {a : Act} {Q : Exit → Act → World → Prop} (hgd : o.guard = none) (d s : Operand)
    (ho : o.op = .call { callee := .builtin .copy, args := #[d, s], argTypes := #[22, 22] })
    (sp : Option Addr) (g n c : Nat) (ss : List ByteArray) (hd : a.eval d = .slice (some ⟨g, 0, none⟩) n n) (hs : a.eval s = .slice sp n c) (hrow : StrRow w sp n ss)
    (C : Array Value) (hg : w.heap[g]? = some (.cells C 9 (0, 0))) (hC : C.size = n) (B : Nat) (w0 : World) (hb : Below B w0 w) (hBg : B ≤ g)
    (h : ∀ w', StrRow w' (some ⟨g, 0, none⟩) n ss → Below B w0 w' → Below g w w' → wpList Try.prog ops Q rest (a.put o.dst (.int .i64 n)) w') :
    wpList Try.prog ops Q (o :: rest) a w := by
  have hcl : (ss.map Value.string).length = n := by simp [hrow.len]
  refine wpList_copy_splice hgd d s 22 22 ho 9 Try.underlying22 Try.size9 (some ⟨g, 0, none⟩) sp n n n c hd hs g 0 C.toList 9 (by simpa using hg) (ss.map Value.string) (by simp [hrow.len]) ?_ (by simp [hrow.len, hC]) (strs_one ss) g w (Below.refl _ _) (Nat.le_refl _) ?_
  · intro hpos
    refine ⟨rfl, ?_⟩
    obtain ⟨ad, rfl⟩ := Option.ne_none_iff_exists'.1 (hrow.addr 0 (by omega))
    refine ⟨ad, rfl, fun j v hj => ?_⟩
    rw [List.getElem?_map] at hj
    obtain ⟨y, hy, rfl⟩ := Option.map_eq_some_iff.1 hj
    have hjn : j < n := by
      have := (List.getElem?_eq_some_iff.1 hy).1
      rw [hrow.len] at this
      exact this
    have e := hrow.cells j hjn
    simp only [pt] at e
    rw [e]
    simp [hy]
  · intro w' hg' hb'
    have e1 : splice C.toList 0 (ss.map Value.string) = ss.map Value.string := by
      simp [splice, hrow.len, hC]
    have hg2 := hg'.out
    rw [e1] at hg2
    rw [show goInt (ss.map Value.string).length = .int .i64 n by rw [hcl]; rfl]
    refine h w' (strRow_block hg2 hrow.len (fun i hi => ?_) hrow.sizes) ?_ hb'
    · have hi' : i < ss.length := by rw [hrow.len]; exact hi
      simp [hi']
    · exact hb.trans (hb'.mono hBg)

end Go.Proofs.Qxb6615952a
