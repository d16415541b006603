/- zzAppendString: a new slice; a copy into a new slice. -/
import Derived.Test.Qxb6615993aPlain
import Derived.Deep.OwnRows
import Derived.Laws.CopyOwn
namespace Go.Proofs.Qxb6615993a
open Go.RowKit

theorem Try.info9 : (Try.prog.info? 9).map (fun i => (i.zero, i.size, i.bytes)) = some (some (.string ByteArray.empty), 1, 16) := by kernel_rfl
theorem Try.size9 : (Try.prog.info? 9).map (·.size) = some 1 := by kernel_rfl

theorem mk22 (n : Nat) (hn : n ≤ 65537) (w : World) :
    (Instr.makeSlice 22 (.int .i64 (n : Int)) (.int .i64 (n : Int))).run Try.prog w = .ok (.slice (some ⟨w.heap.size, 0, none⟩) n n) (w.alloc (.cells (madeCells #[.string ByteArray.empty] n) 9)) :=
  run_make_row' (P := Try.prog) 22 9 (.string ByteArray.empty) 16 Try.underlying22 Try.info9 rfl .i64 .i64 n (by omega) (by omega) w

theorem pt_block (g i : Nat) : pt (some ⟨g, 0, none⟩) i = ⟨g, i, none⟩ := by
  simp only [pt, Addr.add]
  split
  · subst_vars; rfl
  · simp

/-- A row that is a whole block. -/
theorem strRow_block {w : World} {g n : Nat} {ss : List ByteArray} {C : Array Value} {t : TypeId} {fr : Nat × Nat} (hg : w.heap[g]? = some (.cells C t fr)) (hl : ss.length = n)
    (hc : ∀ i, i < n → C[i]? = some (.string (ss.getD i ByteArray.empty))) (hs : ∀ s, s ∈ ss → s.size ≤ maxLen) : StrRow w (some ⟨g, 0, none⟩) n ss := by
  refine ⟨hl, fun _ _ => by simp, fun i hi => ?_, hs⟩
  rw [pt_block, ← hc i hi]
  simp [World.cell?, hg]

theorem set_step (C : Array Value) (s : List ByteArray) (j n : Nat) (hC : C.size = n + 1) (hj : j < n) (hp : ∀ q, q < j → C[q]? = some (.string (s.getD q ByteArray.empty))) :
    ∀ q, q < j + 1 → (C.setIfInBounds j (.string (s.getD j ByteArray.empty)))[q]? = some (.string (s.getD q ByteArray.empty)) := by
  intro q hq
  rw [Array.getElem?_setIfInBounds]
  by_cases e : j = q
  · subst e
    rw [if_pos rfl, if_pos (by omega)]
  · rw [if_neg e]
    exact hp q (by omega)

theorem row_done (w : World) (C : Array Value) (s : List ByteArray) (x : ByteArray) (n j : Nat) (hC : C.size = n + 1) (hl : s.length = n) (hlt : ¬ j < n) (hj : j ≤ n) (hp : ∀ q, q < j → C[q]? = some (.string (s.getD q ByteArray.empty)))
    (hs : ∀ y, y ∈ s → y.size ≤ maxLen) (hx : x.size ≤ maxLen) : StrRow (w.alloc (.cells (C.setIfInBounds n (.string x)) 9)) (some ⟨w.heap.size, 0, none⟩) (n + 1) (s ++ [x]) := by
  refine strRow_block (t := 9) (fr := (0, 0)) (MapKept.heap_alloc w _).1 (by simp [hl]) (fun i hi => ?_) ?_
  · rw [Array.getElem?_setIfInBounds]
    by_cases e : n = i
    · subst e
      rw [if_pos rfl, if_pos (by omega)]
      simp [hl]
    · rw [if_neg e, hp i (by omega)]
      simp [List.getElem?_append_left (show i < s.length by omega)]
  · intro y hy
    rcases List.mem_append.1 hy with hy | hy
    · exact hs y hy
    · simp at hy
      subst hy
      exact hx

set_option maxHeartbeats 400000 in
theorem append10 (a : Option Addr) (n c : Nat) (s : List ByteArray) (x : ByteArray) (w : World) (h : StrRow w a n s) (hx : x.size ≤ maxLen) (hn : n ≤ 65536) :
    Calls Try.prog 10 #[.slice a n c, .string x] w fun e w' => e = .returned (.slice (some ⟨w.heap.size, 0, none⟩) (n + 1) (n + 1)) ∧ StrRow w' (some ⟨w.heap.size, 0, none⟩) (n + 1) (s ++ [x]) ∧ Below w.heap.size w w' := by
  have hmk := mk22 (n + 1) (by omega)
  have ec : ((n + 1 : Nat) : Int) = (n : Int) + 1 := by omega
  rw [ec] at hmk
  clear ec
  go_enter Try.func10, Try.ntmps10
  go_wp2
  go_loopw [6] (fun i wr => ∃ (j : Nat) (C : Array Value), j ≤ n ∧ i = .int .i64 j ∧ C.size = n + 1 ∧ (∀ q, q < j → C[q]? = some (.string (s.getD q ByteArray.empty))) ∧ wr = w.alloc (.cells C 9)) (fun i _ => n - (intOf i).toNat)
  case atStart => exact ⟨0, _, Nat.zero_le _, rfl, size_madeCells _ _, fun q hq => absurd hq (by omega), rfl⟩
  case round =>
    obtain ⟨j, C, hj, rfl, hC, hp, rfl⟩ := hrel
    by_cases hlt : j < n
    · have hi := ix (c := c) (h.addr j hlt) hlt
      have hk := (h.keep ((Below.refl _ _).alloc (Nat.le_refl _) (.cells C 9))).cells j hlt
      obtain ⟨v, hv⟩ : ∃ v, C[j]? = some v := ⟨C[j], by simp⟩
      obtain ⟨kk, hkk⟩ : ∃ kk, kk = s.getD j ByteArray.empty := ⟨_, rfl⟩
      rw [← hkk] at hk
      have HK : Hid (kk = s.getD j ByteArray.empty) := hkk
      clear hkk
      go_wp2
      go_roundw
      case rel =>
        refine ⟨j + 1, C.setIfInBounds j (.string (s.getD j ByteArray.empty)), by omega, by go_num, by simp [hC], set_step C s j n hC hlt hp, by rw [HK.out]⟩
      case measure => simp [intOf]; omega
    · obtain ⟨v, hv⟩ : ∃ v, C[n]? = some v := ⟨C[n], by simp⟩
      go_wp2
      go_ret
      exact ⟨rfl, row_done w C s x n j hC h.len hlt hj hp h.sizes hx, (Below.refl _ _).alloc (Nat.le_refl _) _⟩

theorem strs_one (ss : List ByteArray) : ∀ v, v ∈ ss.map Value.string → v.oneCell' = true := by
  intro v hv
  obtain ⟨s, _, rfl⟩ := List.mem_map.1 hv
  rfl

/-- A guard: the next operation is a call of the builtin copy. -/
theorem at_copy {P : Program} {ops : Array Oper} {rest : List Oper} {a : Act} {w : World} {Q : Exit → Act → World → Prop} {dst : Option Nat} {args : Array Operand} {ats : Array TypeId} {ty : TypeId} {pos : String} {after : Array Edge} {guard : Option (Nat × Bool)}
    (h : wpList P ops Q ({ dst := dst, op := Op.call { callee := .builtin .copy, args := args, argTypes := ats }, type := ty, pos := pos, after := after, guard := guard } :: rest) a w) :
    wpList P ops Q ({ dst := dst, op := Op.call { callee := .builtin .copy, args := args, argTypes := ats }, type := ty, pos := pos, after := after, guard := guard } :: rest) a w := h

/-- 'copy(new, row)': the new slice reads as the row does. -/
theorem wpList_copy_strs {w : World} {ops : Array Oper} {rest : List Oper} {o : Oper} {a : Act} {Q : Exit → Act → World → Prop} (hgd : o.guard = none) (d s : Operand)
    (ho : o.op = .call { callee := .builtin .copy, args := #[d, s], argTypes := #[22, 22] })
    (sp : Option Addr) (g n c : Nat) (ss : List ByteArray) (hd : a.eval d = .slice (some ⟨g, 0, none⟩) n n) (hs : a.eval s = .slice sp n c) (hrow : StrRow w sp n ss)
    (C : Array Value) (hg : w.heap[g]? = some (.cells C 9 (0, 0))) (hC : C.size = n) (B : Nat) (w0 : World) (hb : Below B w0 w) (hBg : B ≤ g)
    (h : ∀ w', StrRow w' (some ⟨g, 0, none⟩) n ss → Below B w0 w' → Below g w w' → wpList Try.prog ops Q rest (a.put o.dst (.int .i64 n)) w') :
    wpList Try.prog ops Q (o :: rest) a w := by
  have hcl : (ss.map Value.string).length = n := by simp [hrow.len]
  refine wpList_copy_splice hgd d s 22 22 ho 9 Try.underlying22 Try.size9 (some ⟨g, 0, none⟩) sp n n n c hd hs g 0 C.toList 9 (by simpa using hg) (ss.map Value.string) (by simp [hrow.len]) ?_ (by simp [hrow.len, hC]) (strs_one ss) g w (Below.refl _ _) (Nat.le_refl _) ?_
  · intro hpos
    refine ⟨rfl, ?_⟩
    obtain ⟨ad, rfl⟩ := Option.ne_none_iff_exists'.1 (hrow.addr 0 (by omega))
    refine ⟨ad, rfl, fun j v hj => ?_⟩
    rw [List.getElem?_map] at hj
    obtain ⟨y, hy, rfl⟩ := Option.map_eq_some_iff.1 hj
    have hjn : j < n := by
      have := (List.getElem?_eq_some_iff.1 hy).1
      rw [hrow.len] at this
      exact this
    have e := hrow.cells j hjn
    simp only [pt] at e
    rw [e]
    simp [hy]
  · intro w' hg' hb'
    have e1 : splice C.toList 0 (ss.map Value.string) = ss.map Value.string := by
      simp [splice, hrow.len, hC]
    have hg2 := hg'.out
    rw [e1] at hg2
    rw [show goInt (ss.map Value.string).length = .int .i64 n by rw [hcl]; rfl]
    refine h w' (strRow_block hg2 hrow.len (fun i hi => ?_) hrow.sizes) ?_ hb'
    · have hi' : i < ss.length := by rw [hrow.len]; exact hi
      simp [hi']
    · exact hb.trans (hb'.mono hBg)

end Go.Proofs.Qxb6615993a
