/- Slices of bytes and of strings: those that came in (read without a case for nil) and those that the call owns. -/
import Derived.Test.Qxb6614772aRows
import Derived.WalkKit
import Derived.WalkSpells
import Derived.WalkLawsBesides
import Derived.Deep.OwnRows
import Derived.Laws.CopyOwn
namespace Go.Proofs.Qxb6614772a
open Go.RowKit

/-- The place of element i of a slice that begins at a. -/
def pt (a : Option Addr) (i : Nat) : Addr := match a with | some p => p.add i | none => ⟨0, 0, none⟩

theorem pt_block (g i : Nat) : pt (some ⟨g, 0, none⟩) i = ⟨g, i, none⟩ := by
  simp only [pt, Addr.add]
  split
  · subst_vars; rfl
  · simp

/-- The slice value with address a and n elements (of one cell each) reads as the values vs in w. -/
structure Row (w : World) (a : Option Addr) (n : Nat) (vs : List Value) : Prop where
  len : vs.length = n
  addr : ∀ i, i < n → a ≠ none
  cells : ∀ i v, vs[i]? = some v → w.cell? (pt a i) = some v

theorem Row.keep {w w' : World} {a : Option Addr} {n : Nat} {vs : List Value} (h : Row w a n vs) (hb : Below w.heap.size w w') : Row w' a n vs :=
  ⟨h.len, h.addr, fun i v hi => (hb.cell (block_lt_of_cell (h.cells i v hi))).trans (h.cells i v hi)⟩

def bytesV (zs : List Int) : List Value := zs.map (Value.int .u8)
def strsV (ss : List ByteArray) : List Value := ss.map Value.string

theorem bytes_at (zs : List Int) (i : Nat) (hi : i < zs.length) : (bytesV zs)[i]? = some (.int .u8 (zs.getD i 0)) := by
  simp [bytesV, hi]
theorem strs_at (ss : List ByteArray) (i : Nat) (hi : i < ss.length) : (strsV ss)[i]? = some (.string (ss.getD i ByteArray.empty)) := by
  simp [strsV, hi]
theorem bytes_len (zs : List Int) : (bytesV zs).length = zs.length := by simp [bytesV]
theorem strs_len (ss : List ByteArray) : (strsV ss).length = ss.length := by simp [strsV]
theorem bytes_one (zs : List Int) : ∀ v, v ∈ bytesV zs → v.oneCell' = true := by
  intro v hv
  obtain ⟨s, _, rfl⟩ := List.mem_map.1 hv
  rfl
theorem strs_one (ss : List ByteArray) : ∀ v, v ∈ strsV ss → v.oneCell' = true := by
  intro v hv
  obtain ⟨s, _, rfl⟩ := List.mem_map.1 hv
  rfl

theorem Row.byte {w : World} {a : Option Addr} {n : Nat} {zs : List Int} (h : Row w a n (bytesV zs)) {i : Nat} (hi : i < n) : w.cell? (pt a i) = some (.int .u8 (zs.getD i 0)) :=
  h.cells i _ (bytes_at zs i (by have := h.len; rw [bytes_len] at this; omega))
theorem Row.str {w : World} {a : Option Addr} {n : Nat} {ss : List ByteArray} (h : Row w a n (strsV ss)) {i : Nat} (hi : i < n) : w.cell? (pt a i) = some (.string (ss.getD i ByteArray.empty)) :=
  h.cells i _ (strs_at ss i (by have := h.len; rw [strs_len] at this; omega))

theorem Try.cells5 : Try.prog.cellsOf 5 = 1 := by kernel_rfl
theorem Try.cells9 : Try.prog.cellsOf 9 = 1 := by kernel_rfl
theorem Try.info9 : (Try.prog.info? 9).map (fun i => (i.zero, i.size, i.bytes)) = some (some (.string ByteArray.empty), 1, 16) := by kernel_rfl
theorem Try.info5 : (Try.prog.info? 5).map (fun i => (i.zero, i.size, i.bytes)) = some (some (.int .u8 0), 1, 1) := by kernel_rfl
theorem Try.size9 : (Try.prog.info? 9).map (·.size) = some 1 := by kernel_rfl
theorem Try.size5 : (Try.prog.info? 5).map (·.size) = some 1 := by kernel_rfl

theorem ix22 {a : Option Addr} {n c i : Nat} (ha : a ≠ none) (hi : i < n) (w : World) :
    (Instr.indexAt 22 (.slice a n c) (.int .i64 (i : Int))).run Try.prog w = .ok (.pointer (some (pt a i))) w := by
  obtain ⟨p, rfl⟩ := Option.ne_none_iff_exists'.1 ha
  have h9 : (sizeOf 5).run Try.prog w = .ok 1 w := by kernel_rfl
  simp [Instr.indexAt, run_underlying Try.underlying22, asIntOf, hi, h9, Result.andThen, pt]
theorem ix23 {a : Option Addr} {n c i : Nat} (ha : a ≠ none) (hi : i < n) (w : World) :
    (Instr.indexAt 23 (.slice a n c) (.int .i64 (i : Int))).run Try.prog w = .ok (.pointer (some (pt a i))) w := by
  obtain ⟨p, rfl⟩ := Option.ne_none_iff_exists'.1 ha
  have h9 : (sizeOf 9).run Try.prog w = .ok 1 w := by kernel_rfl
  simp [Instr.indexAt, run_underlying Try.underlying23, asIntOf, hi, h9, Result.andThen, pt]

theorem mk22 (n : Nat) (hn : n ≤ 2000000) (w : World) :
    (Instr.makeSlice 22 (.int .i64 (n : Int)) (.int .i64 (n : Int))).run Try.prog w = .ok (.slice (some ⟨w.heap.size, 0, none⟩) n n) (w.alloc (.cells (madeCells #[.int .u8 0] n) 5)) :=
  run_make_row' (P := Try.prog) 22 5 (.int .u8 0) 1 Try.underlying22 Try.info5 rfl .i64 .i64 n (by omega) (by omega) w
theorem mk23 (n : Nat) (hn : n ≤ 2000000) (w : World) :
    (Instr.makeSlice 23 (.int .i64 (n : Int)) (.int .i64 (n : Int))).run Try.prog w = .ok (.slice (some ⟨w.heap.size, 0, none⟩) n n) (w.alloc (.cells (madeCells #[.string ByteArray.empty] n) 9)) :=
  run_make_row' (P := Try.prog) 23 9 (.string ByteArray.empty) 16 Try.underlying23 Try.info9 rfl .i64 .i64 n (by omega) (by omega) w

/-- What the call owns reads as a row. -/
theorem row_of_own {w : World} {B n c : Nat} {e : TypeId} {A : Option Addr} {vs : List Value} (h : w.ownsRow B e 1 (.slice A n c) n vs) : Row w A n vs := by
  obtain ⟨hl, h2⟩ := h
  rw [Nat.mul_one] at hl
  rcases h2 with ⟨hv, rfl⟩ | ⟨g, cap, cur, hv, _, hg, _, _, hs, ht⟩
  · refine ⟨hl, fun i hi => absurd hi (by omega), fun i v hi => ?_⟩
    rw [List.eq_nil_of_length_eq_zero hl] at hi
    cases hi
  · simp only [Value.slice.injEq] at hv
    obtain ⟨rfl, _, rfl⟩ := hv
    refine ⟨hl, fun _ _ => by simp, fun i v hi => ?_⟩
    have hlt : i < n := by rw [← hl]; exact (List.getElem?_eq_some_iff.1 hi).1
    rw [pt_block]
    rw [← ht, Nat.mul_one, List.getElem?_take, if_pos hlt] at hi
    simpa [World.cell?, hg] using hi

theorem grown_of_below {w w' : World} (h : Below w.heap.size w w') (row : Option Nat) : w.grownBy w' row := ⟨h.os, h.tape, h.output, h.size, fun k hk _ => h.block k hk⟩

theorem own_below {w w' : World} {B n : Nat} {e : TypeId} {v : Value} {vs : List Value} (h : w.ownsRow B e 1 v n vs) (hb : Below w.heap.size w w') : w'.ownsRow B e 1 v n vs := by
  refine h.kept (grown_of_below hb none) ?_
  cases hv : v.ownBlock with
  | none => exact Or.inl rfl
  | some k => exact Or.inr (by simp)

/-- A guard: the next operation is a call of the builtin copy. -/
theorem at_copy {P : Program} {ops : Array Oper} {rest : List Oper} {a : Act} {w : World} {Q : Exit → Act → World → Prop} {dst : Option Nat} {args : Array Operand} {ats : Array TypeId} {ty : TypeId} {pos : String} {after : Array Edge} {guard : Option (Nat × Bool)}
    (h : wpList P ops Q ({ dst := dst, op := Op.call { callee := .builtin .copy, args := args, argTypes := ats }, type := ty, pos := pos, after := after, guard := guard } :: rest) a w) :
    wpList P ops Q ({ dst := dst, op := Op.call { callee := .builtin .copy, args := args, argTypes := ats }, type := ty, pos := pos, after := after, guard := guard } :: rest) a w := h

/-- 'copy(new, row)': the new slice owns what the row reads as. -/
theorem wpList_copy_row {w : World} {ops : Array Oper} {rest : List Oper} {o : Oper} {a : Act} {Q : Exit → Act → World → Prop} (hgd : o.guard = none) (d s : Operand) (T E : TypeId)
    (ho : o.op = .call { callee := .builtin .copy, args := #[d, s], argTypes := #[T, T] }) (hu : Try.prog.underlying T = some (.slice E)) (hsz : (Try.prog.info? E).map (·.size) = some 1)
    (sp : Option Addr) (g n c : Nat) (vs : List Value) (hd : a.eval d = .slice (some ⟨g, 0, none⟩) n n) (hs : a.eval s = .slice sp n c) (hrow : Row w sp n vs) (hone : ∀ v, v ∈ vs → v.oneCell' = true) (hn : n ≤ maxLen)
    (C : Array Value) (hg : w.heap[g]? = some (.cells C E (0, 0))) (hC : C.size = n)
    (h : ∀ w', w'.ownsRow g E 1 (.slice (some ⟨g, 0, none⟩) n n) n vs → Below g w w' → wpList Try.prog ops Q rest (a.put o.dst (.int .i64 n)) w') :
    wpList Try.prog ops Q (o :: rest) a w := by
  refine wpList_copy_splice hgd d s T T ho E hu hsz (some ⟨g, 0, none⟩) sp n n n c hd hs g 0 C.toList E (by simpa using hg) vs (by simp [hrow.len]) ?_ (by simp [hrow.len, hC]) hone g w (Below.refl _ _) (Nat.le_refl _) ?_
  · intro hpos
    refine ⟨rfl, ?_⟩
    obtain ⟨ad, rfl⟩ := Option.ne_none_iff_exists'.1 (hrow.addr 0 (by rw [← hrow.len]; exact hpos))
    exact ⟨ad, rfl, fun j v hj => hrow.cells j v hj⟩
  · intro w' hg' hb'
    have e1 : splice C.toList 0 vs = vs := by
      simp [splice, hrow.len, hC]
    have hg2 := hg'.out
    rw [e1] at hg2
    rw [show goInt vs.length = .int .i64 n by rw [hrow.len]; rfl]
    refine h w' ⟨by rw [Nat.mul_one]; exact hrow.len, Or.inr ⟨g, n, vs.toArray, rfl, Nat.le_refl _, hg2, Nat.le_refl _, hn, by simp [hrow.len], ?_⟩⟩ hb'
    rw [Nat.mul_one]
    exact List.take_of_length_le (by simp [hrow.len])

end Go.Proofs.Qxb6614772a
