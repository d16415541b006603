/- Small facts for the walks of this seat: maps with string keys whose elements are interface values, told by what they hold at each key. -/
import Derived.Test.Qxb6615952aRows
import Derived.WalkKit
import Derived.WalkSpells
import Derived.WalkLawsBesides
import Derived.Maps.Own
import Derived.Maps.OwnSet
namespace Go.Proofs.Qxb6615952a
open Go.RowKit
open Go.Maps (Keyed string_keyed atKey_put_same atKey_put_other has_put_same has_put_other)
open Go.WideMaps (keyOf_string_mk)

/-- How an element reads here: as itself. -/
def rawElem (v : Value) : Option (DataW Value × List MemPlace) := some (.held v, [])

theorem law : Keyed Try.prog 9 := string_keyed Try.underlying9
theorem zero20 (w : World) : (zeroValue 20).run Try.prog w = .ok .nilIface w := by kernel_rfl

/-- What a map holds, key by key. -/
def Holds (w : World) (b n : Nat) (f : List UInt8 → Option Value) : Prop :=
  ∃ D : DataW Value, w.ownsMap Try.prog 9 rawElem b n D ∧ ∀ k, Maps.has D (.string k) = (f k).isSome ∧ D.atKey (.string k) (.held .nilIface) = .held ((f k).getD .nilIface)

/-- One more entry. -/
def upd (f : List UInt8 → Option Value) (k : List UInt8) (v : Value) (k' : List UInt8) : Option Value := if k' = k then some v else f k'

theorem Holds.made (w : World) : Holds (w.alloc (.map #[] 0)) w.heap.size 0 (fun _ => none) :=
  ⟨.map [], World.ownsMap_made w _ _ _, fun _ => ⟨rfl, rfl⟩⟩

theorem Holds.lt {w : World} {b n : Nat} {f : List UInt8 → Option Value} (h : Holds w b n f) : b < w.heap.size := by
  obtain ⟨D, hown, _⟩ := h
  exact hown.lt

theorem Holds.kept {w w' : World} {b n : Nat} {f : List UInt8 → Option Value} {row : Option Nat} (h : Holds w b n f) (hg : w.grownBy w' row) (hne : some b ≠ row) : Holds w' b n f := by
  obtain ⟨D, hown, hf⟩ := h
  exact ⟨D, hown.kept hg hne, hf⟩

theorem Holds.alloc {w : World} {b n : Nat} {f : List UInt8 → Option Value} (h : Holds w b n f) (o : Obj) : Holds (w.alloc o) b n f := h.kept (World.grownBy_alloc w o none) (by simp)

theorem Holds.below {w w' : World} {B b n : Nat} {f : List UInt8 → Option Value} (h : Holds w b n f) (hb : Below B w w') (hB : b < B) : Holds w' b n f := by
  obtain ⟨D, ⟨es, clock, hblk, r⟩, hf⟩ := h
  exact ⟨D, ⟨es, clock, (hb.block b hB).trans hblk, r⟩, hf⟩

theorem Holds.look {w : World} {b n : Nat} {f : List UInt8 → Option Value} (h : Holds w b n f) (t : TypeId) (ht : Try.prog.underlying t = some (.map 9 20)) (s : ByteArray) (hs : s.size ≤ maxLen) :
    (Instr.lookup t (.map (some b)) (.string s) false).run Try.prog w = .ok ((f s.toList).getD .nilIface) w := by
  obtain ⟨D, hown, hf⟩ := h
  obtain ⟨v, ps, hrun, hv⟩ := hown.lookup law ht (zero20 w) (zd := .held .nilIface) (zp := []) rfl (keyOf_string_mk Try.underlying9 hs)
  rw [(hf _).2, ← ByteArray.toList_eq] at hv
  have e : v = (f s.toList).getD .nilIface := by simpa [rawElem] using congrArg (Option.map Prod.fst) hv
  rw [hrun, e]

theorem Holds.look_ok {w : World} {b n : Nat} {f : List UInt8 → Option Value} (h : Holds w b n f) (t : TypeId) (ht : Try.prog.underlying t = some (.map 9 20)) (s : ByteArray) (hs : s.size ≤ maxLen) :
    (Instr.lookup t (.map (some b)) (.string s) true).run Try.prog w = .ok (.tuple #[(f s.toList).getD .nilIface, .bool (f s.toList).isSome]) w := by
  obtain ⟨D, hown, hf⟩ := h
  obtain ⟨v, ps, hrun, hv⟩ := hown.look_ok law ht (zero20 w) (zd := .held .nilIface) (zp := []) rfl (keyOf_string_mk Try.underlying9 hs)
  rw [(hf _).2, ← ByteArray.toList_eq] at hv
  have e : v = (f s.toList).getD .nilIface := by simpa [rawElem] using congrArg (Option.map Prod.fst) hv
  rw [hrun, e, (hf _).1, ← ByteArray.toList_eq]

theorem Holds.put {w : World} {b n : Nat} {f : List UInt8 → Option Value} (h : Holds w b n f) (t : TypeId) (ht : Try.prog.underlying t = some (.map 9 20)) (hn : n < maxLen) (s : ByteArray) (hs : s.size ≤ maxLen) (x : Value) :
    ∃ w', (Instr.mapUpdate t (.map (some b)) (.string s) x).run Try.prog w = .ok () w' ∧ Holds w' b (n + 1) (upd f s.toList x) ∧ w.grownBy w' (some b) := by
  obtain ⟨D, hown, hf⟩ := h
  obtain ⟨w', hrun, hown', hg⟩ := hown.update law ht hn (val := x) (d := .held x) (ps := []) (keyOf_string_mk Try.underlying9 hs) rfl
  refine ⟨w', hrun, ⟨_, hown', fun k => ?_⟩, hg⟩
  by_cases e : k = s.toList
  · subst e
    rw [← ByteArray.toList_eq, atKey_put_same hown.isMap (by trivial), has_put_same hown.isMap (by trivial)]
    simp [upd]
  · have e' : (Lit.string k) ≠ .string s.data.toList := by
      intro e'
      rw [← ByteArray.toList_eq] at e'
      injection e' with e'
      exact e e'
    rw [atKey_put_other e', has_put_other e', (hf k).1, (hf k).2]
    simp [upd, e]

/-- A guard: the next operation lays an entry of a map literal. -/
theorem at_insert {P : Program} {ops : Array Oper} {rest : List Oper} {a : Act} {w : World} {Q : Exit → Act → World → Prop} {dst : Option Nat} {t : TypeId} {m x v : Operand} {ty : TypeId} {pos : String} {after : Array Edge} {guard : Option (Nat × Bool)}
    (h : wpList P ops Q ({ dst := dst, op := Op.insert t m x v, type := ty, pos := pos, after := after, guard := guard } :: rest) a w) :
    wpList P ops Q ({ dst := dst, op := Op.insert t m x v, type := ty, pos := pos, after := after, guard := guard } :: rest) a w := h

/-- An entry of a map literal. -/
theorem wpList_insert {w : World} {ops : Array Oper} {rest : List Oper} {o : Oper} {a : Act} {Q : Exit → Act → World → Prop}
    (hg : o.guard = none) (m x v : Operand) (t : TypeId) (hop : o.op = Op.insert t m x v) (ht : Try.prog.underlying t = some (.map 9 20))
    (b n : Nat) (f : List UInt8 → Option Value) (hm : a.eval m = .map (some b)) (hown : Holds w b n f) (hn : n < maxLen) (s : ByteArray) (hs : s.size ≤ maxLen) (val : Value) (hx : a.eval x = .string s) (hv : a.eval v = val)
    (hK : ∀ w', Holds w' b (n + 1) (upd f s.toList val) → w.grownBy w' (some b) → wpList Try.prog ops Q rest (a.put o.dst undef) w') :
    wpList Try.prog ops Q (o :: rest) a w := by
  refine wpList_plain hg fun K' hK' => ?_
  obtain ⟨w', hrun, r1, r2⟩ := hown.put t ht hn s hs val
  unfold Oper.wp
  simp [execOp, hop, hm, hx, hv, hrun, Result.andThen]
  exact hK' _ _ (hK w' r1 r2)


end Go.Proofs.Qxb6615952a
