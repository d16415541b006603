/- ZZJob: the object of the conditions. -/
import Derived.Test.Qxb6615952aStrs
import Derived.Test.Qxb6615952aField
import Derived.Deep.RegionHeld3
import Derived.Deep.RegionLaw
namespace Go.Proofs.Qxb6615952a
open Go.RowKit

theorem Try.info20 : (Try.prog.info? 20).map (fun i => (i.zero, i.size, i.bytes)) = some (some .nilIface, 1, 16) := by kernel_rfl

def kType : ByteArray := ⟨#[116, 121, 112, 101]⟩
def kStatus : ByteArray := ⟨#[115, 116, 97, 116, 117, 115]⟩
def kReason : ByteArray := ⟨#[114, 101, 97, 115, 111, 110]⟩
def kConds : ByteArray := ⟨#[99, 111, 110, 100, 105, 116, 105, 111, 110, 115]⟩
def kKind : ByteArray := ⟨#[107, 105, 110, 100]⟩
def kHeart : ByteArray := ⟨#[108, 97, 115, 116, 72, 101, 97, 114, 116, 98, 101, 97, 116, 84, 105, 109, 101]⟩
def kUpdate : ByteArray := ⟨#[108, 97, 115, 116, 85, 112, 100, 97, 116, 101, 84, 105, 109, 101]⟩
def kTrans : ByteArray := ⟨#[108, 97, 115, 116, 84, 114, 97, 110, 115, 105, 116, 105, 111, 110, 84, 105, 109, 101]⟩
def kMsg : ByteArray := ⟨#[109, 101, 115, 115, 97, 103, 101]⟩

/-- What one condition's map holds. -/
def CondF (f : List UInt8 → Option Value) (t s r : ByteArray) : Prop :=
  f kType.toList = some (.iface 9 (.string t)) ∧ f kStatus.toList = some (.iface 9 (.string s)) ∧ f kReason.toList = some (.iface 9 (.string r)) ∧
  f kHeart.toList = none ∧ f kUpdate.toList = none ∧ f kTrans.toList = none ∧ f kMsg.toList = none

def CondMap (W : World) (m : Nat) (t s r : ByteArray) : Prop := ∃ n f, Holds W m n f ∧ CondF f t s r

/-- The list of conditions, its first j elements laid. -/
def ListIs (W : World) (L n j : Nat) (s0 s1 s2 : List ByteArray) : Prop :=
  ∃ C : Array Value, W.heap[L]? = some (.cells C 20 (0, 0)) ∧ C.size = n ∧ ∀ i, i < j → ∃ m, C[i]? = some (.iface 30 (.map (some m))) ∧ CondMap W m (s0.getD i ByteArray.empty) (s1.getD i ByteArray.empty) (s2.getD i ByteArray.empty)

/-- A map that is being built in the block behind w0's last. -/
def Building (w0 W : World) (n : Nat) (f : List UInt8 → Option Value) : Prop := Holds W w0.heap.size n f ∧ Below w0.heap.size w0 W

theorem Building.made (w0 : World) : Building w0 (w0.alloc (.map #[] 0)).drew 0 (fun _ => none) :=
  ⟨Holds.made w0, ((Below.refl _ _).alloc (Nat.le_refl _) _).drew⟩

theorem upon_put {o : Oper} {a : Act} {K : Act → World → Prop} {Q : Exit → Act → World → Prop} {w0 W : World} {n : Nat} {f : List UInt8 → Option Value} {s : ByteArray} {x : Value} (h : Building w0 W n f) (hn : n < 100) (hs : s.size ≤ maxLen)
    (hK : ∀ w', Building w0 w' (n + 1) (upd f s.toList x) → K (a.put o.dst undef) w') :
    Oper.upon Try.prog o a K Q ((Sem.run Try.prog (Instr.mapUpdate 30 (.map (some w0.heap.size)) (.string s) x) W).andThen fun _ w' => Result.ok Next.skip w') := by
  obtain ⟨w', hrun, h1, hg⟩ := h.1.put 30 Try.underlying30 (by unfold maxLen; omega) s hs x
  rw [hrun]
  exact hK w' ⟨h1, h.2.grown hg h.2.size (fun k hk => by cases hk; exact Nat.le_refl _)⟩

theorem keep_put {w0 W : World} {n : Nat} {f : List UInt8 → Option Value} {p q r : Addr} {x y z : Value} (hp : w0.cell? p = some x) (hq : w0.cell? q = some y) (hr : w0.cell? r = some z) (h : Building w0 W n f) :
    W.cell? p = some x ∧ W.cell? q = some y ∧ W.cell? r = some z :=
  ⟨(h.2.cell (block_lt_of_cell hp)).trans hp, (h.2.cell (block_lt_of_cell hq)).trans hq, (h.2.cell (block_lt_of_cell hr)).trans hr⟩

theorem keep_alloc {W : World} {p q r : Addr} {x y z : Value} (o : Obj) (h : W.cell? p = some x ∧ W.cell? q = some y ∧ W.cell? r = some z) :
    (W.alloc o).cell? p = some x ∧ (W.alloc o).cell? q = some y ∧ (W.alloc o).cell? r = some z :=
  ⟨(World.cell?_alloc_lt _ _ _ (block_lt_of_cell h.1)).trans h.1, (World.cell?_alloc_lt _ _ _ (block_lt_of_cell h.2.1)).trans h.2.1, (World.cell?_alloc_lt _ _ _ (block_lt_of_cell h.2.2)).trans h.2.2⟩

theorem keep_below {w W : World} {p q r : Addr} {x y z : Value} (hp : w.cell? p = some x) (hq : w.cell? q = some y) (hr : w.cell? r = some z) (h : Below w.heap.size w W) :
    W.cell? p = some x ∧ W.cell? q = some y ∧ W.cell? r = some z :=
  ⟨(h.cell (block_lt_of_cell hp)).trans hp, (h.cell (block_lt_of_cell hq)).trans hq, (h.cell (block_lt_of_cell hr)).trans hr⟩

theorem CondMap.lt {W : World} {m : Nat} {t s r : ByteArray} (h : CondMap W m t s r) : m < W.heap.size := by
  obtain ⟨n, f, hh, _⟩ := h
  exact hh.lt

theorem CondMap.block {W W' : World} {m : Nat} {t s r : ByteArray} (h : CondMap W m t s r) (hb : W'.heap[m]? = W.heap[m]?) : CondMap W' m t s r := by
  obtain ⟨n, f, ⟨D, ⟨es, clock, hblk, r'⟩, hf⟩, hc⟩ := h
  exact ⟨n, f, ⟨D, ⟨es, clock, hb.trans hblk, r'⟩, hf⟩, hc⟩

theorem CondMap.ne_cells {W : World} {m L : Nat} {t s r : ByteArray} {C : Array Value} {e : TypeId} {fr : Nat × Nat} (h : CondMap W m t s r) (hL : W.heap[L]? = some (.cells C e fr)) : m ≠ L := by
  obtain ⟨n, f, ⟨D, ⟨es, clock, hblk, r'⟩, hf⟩, hc⟩ := h
  intro e
  subst e
  rw [hblk] at hL
  cases hL

/-- The append of one more condition to the list. -/
theorem step_append {ops : Array Oper} {o : Oper} {a : Act} {K : Act → World → Prop} {Q : Exit → Act → World → Prop} {E : Prop}
    (hg : o.guard = none) (s x : Operand) (hop : o.op = Op.call { callee := Callee.builtin Builtin.append, args := #[s, x], argTypes := #[39, 39] })
    {w w0 W : World} {n0 : Nat} {f : List UInt8 → Option Value} (hm : Building w0 W n0 f) (L j n : Nat) (hs : a.eval s = .slice (some ⟨L, 0, none⟩) j n) (hx : a.eval x = .slice (some ⟨W.heap.size, 0, none⟩) 1 1) (hlt : j < n)
    (s0 s1 s2 : List ByteArray) (hlist : ListIs w0 L n j s0 s1 s2) (hb : Below w.heap.size w w0) (hL : w.heap.size ≤ L) (tt ss rr : ByteArray) (HE : Hid (tt = s0.getD j ByteArray.empty ∧ ss = s1.getD j ByteArray.empty ∧ rr = s2.getD j ByteArray.empty)) (hcf : CondF f tt ss rr)
    (hK : ∀ w', ListIs w' L n (j + 1) s0 s1 s2 → Below w.heap.size w w' → K (a.put o.dst (.slice (some ⟨L, 0, none⟩) (j + 1) n)) w') :
    if Region.wanted o (yielded ops a.tmps) = true then Oper.wp Try.prog o a (W.alloc (.cells #[.iface 30 (.map (some w0.heap.size))] 20)) K Q else E := by
  obtain ⟨i0, hi, hz0, hz1, hz2⟩ := info_parts Try.info20
  obtain ⟨C, hC, hCs, hel⟩ := hlist
  have hLlt : L < w0.heap.size := (Array.getElem?_eq_some_iff.1 hC).1
  have hLW : W.heap[L]? = some (.cells C 20 (0, 0)) := (hm.2.block L hLlt).trans hC
  have hLA : (W.alloc (.cells #[.iface 30 (.map (some w0.heap.size))] 20)).heap[L]? = some (.cells C 20 (0, 0)) := by
    rw [Below.heap_alloc _ _ _ (Nat.lt_of_lt_of_le hLlt hm.2.size)]
    exact hLW
  have hsz := hm.2.size
  refine step_append_room hg s x 39 hop 20 i0 1 Try.underlying39 hi hz1 L 0 j n hs ⟨W.heap.size, 0, none⟩ 1 1 [.iface 30 (.map (some w0.heap.size))] hx rfl (cell_one_new _ _ _) (by intro u hu; simp at hu; subst hu; rfl) (by omega) ?_ ?_
  · intro q hq
    have e : q = 0 := by simp at hq; exact hq
    subst e
    constructor
    · simp [World.cell?, hLA, hCs, hlt]
    · simp [World.frozen?, hLA]
  · refine hK _ ⟨C.setIfInBounds j (.iface 30 (.map (some w0.heap.size))), ?_, by simp [hCs], ?_⟩ ?_
    · simp only [World.setCells, Nat.zero_add, Nat.mul_one]
      simp [World.setCell, Array.getElem?_modify, hLA]
    · have hblk : ∀ m, m ≠ L → m < w0.heap.size → ((W.alloc (.cells #[.iface 30 (.map (some w0.heap.size))] 20)).setCells L (0 + j * 1) [.iface 30 (.map (some w0.heap.size))]).heap[m]? = w0.heap[m]? := by
        intro m hmL hmlt
        simp only [World.setCells]
        rw [Below.heap_setCell _ _ _ _ hmL, Below.heap_alloc _ _ _ (by omega)]
        exact hm.2.block m hmlt
      intro i hi
      by_cases e : i = j
      · subst e
        refine ⟨w0.heap.size, by simp [hCs, hlt], ?_⟩
        obtain ⟨rfl, rfl, rfl⟩ := HE.out
        have hne : w0.heap.size ≠ L := by omega
        refine CondMap.block (W := W) ⟨n0, f, hm.1, hcf⟩ ?_
        simp only [World.setCells]
        rw [Below.heap_setCell _ _ _ _ hne, Below.heap_alloc _ _ _ hm.1.lt]
      · obtain ⟨m, hCm, hcm⟩ := hel i (by omega)
        refine ⟨m, ?_, hcm.block (hblk m (hcm.ne_cells hC) hcm.lt)⟩
        rw [Array.getElem?_setIfInBounds, if_neg (fun h => e h.symm)]
        exact hCm
    · have b1 : Below w.heap.size w W := hb.trans (hm.2.mono hb.size)
      simp only [World.setCells]
      exact (b1.alloc b1.size _).setCell hL _

theorem Path2.below {w w' : World} {b : Nat} {k1 k2 : ByteArray} {v : Value} (h : Path2 w b k1 k2 v) (hb : Below w.heap.size w w') : Path2 w' b k1 k2 v := by
  obtain ⟨n, f, hh, ⟨m, n', g, hf, hg, hv⟩ | ⟨s, hf, hv⟩⟩ := h
  · exact ⟨n, f, hh.below hb hh.lt, Or.inl ⟨m, n', g, hf, hg.below hb hg.lt, hv⟩⟩
  · exact ⟨n, f, hh.below hb hh.lt, Or.inr ⟨s, hf, hv⟩⟩

theorem ListIs.below {w w' : World} {L n j : Nat} {s0 s1 s2 : List ByteArray} (h : ListIs w L n j s0 s1 s2) (hb : Below w.heap.size w w') : ListIs w' L n j s0 s1 s2 := by
  obtain ⟨C, hC, hCs, hel⟩ := h
  refine ⟨C, (hb.block L (Array.getElem?_eq_some_iff.1 hC).1).trans hC, hCs, fun i hi => ?_⟩
  obtain ⟨m, hm, hcm⟩ := hel i hi
  exact ⟨m, hm, hcm.block (hb.block m hcm.lt)⟩

/-- The object of a Job whose conditions are the rows of the three lists. -/
def JobIs (W : World) (b n : Nat) (s0 s1 s2 : List ByteArray) : Prop :=
  ∃ L, Path2 W b kStatus kConds (.iface 39 (.slice (some ⟨L, 0, none⟩) n n)) ∧ ListIs W L n n s0 s1 s2

theorem JobIs.below {w w' : World} {b n : Nat} {s0 s1 s2 : List ByteArray} (h : JobIs w b n s0 s1 s2) (hb : Below w.heap.size w w') : JobIs w' b n s0 s1 s2 := by
  obtain ⟨L, h1, h2⟩ := h
  exact ⟨L, h1.below hb, h2.below hb⟩

theorem build_job (wr : World) (l : Value) : ∃ w1 w2 w3,
    (Instr.mapUpdate 31 (.map (some wr.heap.size)) (.string kKind) (.iface 9 (.string ⟨#[74, 111, 98]⟩))).run Try.prog (wr.alloc (.map #[] 0)) = .ok () w1 ∧
    (Instr.mapUpdate 30 (.map (some w1.heap.size)) (.string kConds) (.iface 39 l)).run Try.prog (w1.alloc (.map #[] 0)) = .ok () w2 ∧
    (Instr.mapUpdate 31 (.map (some wr.heap.size)) (.string kStatus) (.iface 30 (.map (some w1.heap.size)))).run Try.prog w2 = .ok () w3 ∧
    Path2 w3 wr.heap.size kStatus kConds (.iface 39 l) ∧ Below wr.heap.size wr w3 := by
  obtain ⟨w1, r1, h1, g1⟩ := (Holds.made wr).put 31 Try.underlying31 (by unfold maxLen; omega) kKind (by decide) (.iface 9 (.string ⟨#[74, 111, 98]⟩))
  have hlt := h1.lt
  obtain ⟨w2, r2, h2, g2⟩ := (Holds.made w1).put 30 Try.underlying30 (by unfold maxLen; omega) kConds (by decide) (.iface 39 l)
  obtain ⟨w3, r3, h3, g3⟩ := ((h1.alloc (.map #[] 0)).kept g2 (by simp; omega)).put 31 Try.underlying31 (by unfold maxLen; omega) kStatus (by decide) (.iface 30 (.map (some w1.heap.size)))
  have h2' := h2.kept g3 (by simp; omega)
  refine ⟨w1, w2, w3, r1, r2, r3, ⟨_, _, h3, Or.inl ⟨_, _, _, by simp [upd], h2', by simp [upd]⟩⟩, ?_⟩
  have b0 : Below wr.heap.size wr (wr.alloc (.map #[] 0)) := (Below.refl _ _).alloc (Nat.le_refl _) _
  have b1 := b0.grown g1 b0.size (fun k hk => by cases hk; omega)
  have b1a := b1.alloc b1.size (.map #[] 0)
  have b2 := b1a.grown g2 b1a.size (fun k hk => by cases hk; omega)
  exact b2.grown g3 b2.size (fun k hk => by cases hk; omega)

set_option maxHeartbeats 1000000 in
theorem job10 (a0 a1 a2 : Option Addr) (n c0 c1 c2 : Nat) (s0 s1 s2 : List ByteArray) (w : World)
    (h0 : StrRow w a0 n s0) (h1 : StrRow w a1 n s1) (h2 : StrRow w a2 n s2) (hn : n ≤ 65536) :
    Calls Try.prog 10 #[.slice a0 n c0, .slice a1 n c1, .slice a2 n c2] w fun e w' => ∃ b, e = .returned (.map (some b)) ∧ JobIs w' b n s0 s1 s2 ∧ Below w.heap.size w w' := by
  have hmm := @run_makeMap Try.prog
  obtain ⟨i0, hi, hz0, hz1, hz2⟩ := info_parts Try.info20
  have hmk : ∀ w, (Instr.makeSlice 39 (.int .i64 0) (.int .i64 (n : Int))).run Try.prog w = .ok (.slice (some ⟨w.heap.size, 0, none⟩) 0 n) (w.alloc (.cells (madeCells #[.nilIface] n) 20)) := by
    intro w
    have h := run_make (P := Try.prog) w 39 20 i0 .nilIface Try.underlying39 hi hz0 .i64 .i64 0 n (by omega) (by omega) (by rw [hz2]; omega) (by omega)
    rw [hz1] at h
    simpa [Value.cells] using h
  go_enter Try.func10, Try.ntmps10
  go_wp2
  go_loopw [7, 14] (fun l i wr => ∃ j : Nat, j ≤ n ∧ i = .int .i64 j ∧ l = .slice (some ⟨w.heap.size, 0, none⟩) j n ∧ ListIs wr w.heap.size n j s0 s1 s2 ∧ Below w.heap.size w wr) (fun _ i _ => n - (intOf i).toNat)
  case atStart => exact ⟨0, Nat.zero_le _, rfl, rfl, ⟨_, (MapKept.heap_alloc w _).1, size_madeCells _ _, fun i hi => absurd hi (by omega)⟩, (Below.refl _ _).alloc (Nat.le_refl _) _⟩
  case round =>
    obtain ⟨j, hj, rfl, rfl, hlist, hbel⟩ := hrel
    by_cases hlt : j < n
    · have hi0 := ix (c := c0) (h0.addr j hlt) hlt
      have hi1 := ix (c := c1) (h1.addr j hlt) hlt
      have hi2 := ix (c := c2) (h2.addr j hlt) hlt
      have hk0 := (h0.keep hbel).cells j hlt
      have hk1 := (h1.keep hbel).cells j hlt
      have hk2 := (h2.keep hbel).cells j hlt
      have hM := Building.made wr
      have hw0 := h0.cells j hlt
      have hw1 := h1.cells j hlt
      have hw2 := h2.cells j hlt
      obtain ⟨tt, htt⟩ : ∃ tt, tt = s0.getD j ByteArray.empty := ⟨_, rfl⟩
      obtain ⟨ss, hss⟩ : ∃ ss, ss = s1.getD j ByteArray.empty := ⟨_, rfl⟩
      obtain ⟨rr, hrr⟩ : ∃ rr, rr = s2.getD j ByteArray.empty := ⟨_, rfl⟩
      rw [← htt] at hk0 hw0
      rw [← hss] at hk1 hw1
      rw [← hrr] at hk2 hw2
      have HE : Hid (tt = s0.getD j ByteArray.empty ∧ ss = s1.getD j ByteArray.empty ∧ rr = s2.getD j ByteArray.empty) := ⟨htt, hss, hrr⟩
      clear htt hss hrr
      go_wp2
      go_region_held3 (fun W => W.cell? (pt a0 j) = some (.string tt) ∧ W.cell? (pt a1 j) = some (.string ss) ∧ W.cell? (pt a2 j) = some (.string rr)) (first | exact keep_below hw0 hw1 hw2 hb1 | exact keep_put hk0 hk1 hk2 hm | go_keep | exact keep_alloc _ (by assumption)) (first | (refine step_append rfl (.tmp 17) (.tmp 36) rfl hm w.heap.size j n rfl rfl hlt s0 s1 s2 hlist hbel (Nat.le_refl _) tt ss rr HE ?_ ?_; (unfold CondF upd; simp [ByteArray.toList_eq, kType, kStatus, kReason, kHeart, kUpdate, kTrans, kMsg]); intro w2 hl1 hb1) | (refine upon_put hm ?_ ?_ ?_; omega; decide; intro w1 hm) | (refine upon_put hM ?_ ?_ ?_; omega; decide; intro w1 hm))
      all_goals
        go_wp2
        go_roundw
        case rel => exact ⟨j + 1, by omega, by go_num, rfl, hl1, hb1⟩
        case measure => simp [intOf]; omega
    · have e : n = j := by omega
      subst e
      obtain ⟨w1, w2, w3, r1, r2, r3, hp, hb3⟩ := build_job wr (.slice (some ⟨w.heap.size, 0, none⟩) n n)
      have hl3 := hlist.below hb3
      have hb : Below w.heap.size w w3 := hbel.trans (hb3.mono hbel.size)
      unfold kKind at r1
      unfold kConds at r2
      unfold kStatus at r3
      clear hlist hbel hb3
      go_wp2
      go_ret
      exact ⟨_, rfl, ⟨_, hp, hl3⟩, hb⟩

end Go.Proofs.Qxb6615952a
