/- The appends: AppendUvarint below 128, (*encoder).state, (*encoder).uint64. -/
import Derived.Test.Qxb6614772aSmall
namespace Go.Proofs.Qxb6614772a
open Go.RowKit

theorem own_shape {w : World} {B n : Nat} {e : TypeId} {v : Value} {vs : List Value} (h : w.ownsRow B e 1 v (n + 1) vs) : ∃ g c, v = .slice (some ⟨g, 0, none⟩) (n + 1) c := by
  rcases h.2 with ⟨_, h0⟩ | ⟨g, cap, cur, hv, _⟩
  · omega
  · exact ⟨g, cap, hv⟩

/-- 'append(owned, byte)', the new slice written out. -/
theorem wpList_push {w : World} {ops : Array Oper} {rest : List Oper} {o : Oper} {a : Act} {Q : Exit → Act → World → Prop} (hgd : o.guard = none) (s x : Operand)
    (ho : o.op = .call { callee := .builtin .append, args := #[s, x], argTypes := #[22, 22] })
    (B : Nat) (v : Value) (n : Nat) (vs : List Value) (z : Int) (hs : a.eval s = v) (hx : a.eval x = .slice (some ⟨w.heap.size, 0, none⟩) 1 1) (hown : w.ownsRow B 5 1 v n vs) (hB : B ≤ w.heap.size) (hn : n ≤ 2000000)
    (h : ∀ g c w', w'.ownsRow B 5 1 (.slice (some ⟨g, 0, none⟩) (n + 1) c) (n + 1) (vs ++ [.int .u8 z]) → w.grownBy w' v.ownBlock → wpList Try.prog ops Q rest (a.put o.dst (.slice (some ⟨g, 0, none⟩) (n + 1) c)) w') :
    wpList Try.prog ops Q (o :: rest) a (w.alloc (.cells #[.int .u8 z] 5)) := by
  obtain ⟨i0, hi, hz0, hz1, hz2⟩ := info_parts Try.info5
  refine wpList_append_own _ hgd s x 22 ho B 5 i0 (.int .u8 0) 1 1 Try.underlying22 hi hz0 hz1 hz2 rfl (by decide) v n vs hs (hown.alloc _) ⟨w.heap.size, 0, none⟩ 1 1 [.int .u8 z] hx rfl (cell_one_new _ _ _) (by intro u hu; simp at hu; subst hu; rfl) (by unfold maxLen; omega) (by omega) (by simp; omega) ?_
  intro u w' hu hg _
  obtain ⟨g, c, rfl⟩ := own_shape hu
  exact h g c w' hu ((World.grownBy_alloc w _ _).trans hg)

/-- What an append of one byte leaves. -/
def Pushed (B : Nat) (w : World) (v : Value) (n : Nat) (vs : List Value) (x : Int) (e : Ending) (w' : World) : Prop :=
  ∃ g c, e = .returned (.slice (some ⟨g, 0, none⟩) (n + 1) c) ∧ w'.ownsRow B 5 1 (.slice (some ⟨g, 0, none⟩) (n + 1) c) (n + 1) (vs ++ [.int .u8 x]) ∧ w.grownBy w' v.ownBlock

set_option maxHeartbeats 400000 in
theorem uvarint18 (B : Nat) (A : Option Addr) (n c : Nat) (vs : List Value) (x : Int) (w : World) (h : w.ownsRow B 5 1 (.slice A n c) n vs) (hB : B ≤ w.heap.size) (hn : n ≤ 2000000) (h0 : 0 ≤ x) (hx : x < 128) :
    Calls Try.prog 18 #[.slice A n c, .int .u64 x] w fun e w' => Pushed B w (.slice A n c) n vs x e w' := by
  go_enter Try.func18, Try.ntmps18
  go_wp2
  go_loop [0, 1] (fun u0 u1 => u0 = .slice A n c ∧ u1 = .int .u64 x) (fun _ _ => 0)
  case atStart => exact ⟨rfl, rfl⟩
  case round =>
    obtain ⟨rfl, rfl⟩ := hrel
    go_wp2_with (at_builtin; refine wpList_push rfl (.tmp 15) (.tmp 18) rfl B _ n vs x rfl rfl h hB hn ?_; intro g c' w1 ho hg)
    go_ret
    exact ⟨g, c', rfl, ho, hg⟩

/-- Only block p and the row o have turned among the old blocks. -/
structure Kept2 (w w' : World) (p : Nat) (o : Option Nat) : Prop where
  os : w'.os = w.os
  tape : w'.tape = w.tape
  output : w'.output = w.output
  size : w.heap.size ≤ w'.heap.size
  block : ∀ k, k < w.heap.size → k ≠ p → some k ≠ o → w'.heap[k]? = w.heap[k]?

/-- An encoder: its block p holds the three slices. -/
def Enc (w : World) (p : Nat) (x y z : Value) : Prop := w.heap[p]? = some (.cells #[x, y, z] 38 (0, 0))

theorem Enc.cell0 {w : World} {p : Nat} {x y z : Value} (h : Enc w p x y z) : w.cell? ⟨p, 0, none⟩ = some x := by unfold Enc at h; simp [World.cell?, h]
theorem Enc.cell1 {w : World} {p : Nat} {x y z : Value} (h : Enc w p x y z) : w.cell? ⟨p, 1, none⟩ = some y := by unfold Enc at h; simp [World.cell?, h]
theorem Enc.cell2 {w : World} {p : Nat} {x y z : Value} (h : Enc w p x y z) : w.cell? ⟨p, 2, none⟩ = some z := by unfold Enc at h; simp [World.cell?, h]
theorem Enc.free {w : World} {p : Nat} {x y z : Value} (h : Enc w p x y z) (i : Nat) : w.frozen? ⟨p, i, none⟩ = false := by unfold Enc at h; simp [World.frozen?, h]
theorem Enc.lt {w : World} {p : Nat} {x y z : Value} (h : Enc w p x y z) : p < w.heap.size := (Array.getElem?_eq_some_iff.1 h).1
theorem Enc.set0 {w : World} {p : Nat} {x y z : Value} (h : Enc w p x y z) (u : Value) : Enc (w.setCell ⟨p, 0, none⟩ u) p u y z := by
  unfold Enc at h ⊢
  simp [World.setCell, Array.getElem?_modify, h]
theorem Enc.ne_own {w : World} {p : Nat} {x y z : Value} (h : Enc w p x y z) {B n : Nat} {v : Value} {vs : List Value} (ho : w.ownsRow B 5 1 v n vs) : some p ≠ v.ownBlock := by
  rcases ho.2 with ⟨rfl, _⟩ | ⟨g, cap, cur, rfl, _, hg, _⟩
  · simp [Value.ownBlock]
  · simp only [Value.ownBlock]
    intro e
    injection e with e
    subst e
    unfold Enc at h
    rw [hg] at h
    cases h
theorem Enc.grown {w w' : World} {p : Nat} {x y z : Value} (h : Enc w p x y z) {row : Option Nat} (hg : w.grownBy w' row) (hne : some p ≠ row) : Enc w' p x y z := (hg.block p h.lt hne).trans h

/-- What a push into the encoder leaves. -/
def EncPushed (B p : Nat) (w : World) (v y z : Value) (n : Nat) (vs : List Value) (x : Int) (w' : World) : Prop :=
  ∃ g c, Enc w' p (.slice (some ⟨g, 0, none⟩) (n + 1) c) y z ∧ w'.ownsRow B 5 1 (.slice (some ⟨g, 0, none⟩) (n + 1) c) (n + 1) (vs ++ [.int .u8 x]) ∧ Kept2 w w' p v.ownBlock

theorem enc_pushed {B p n g c : Nat} {w w1 : World} {v y z : Value} {vs : List Value} {x : Int} (he : Enc w1 p v y z) (ho : w1.ownsRow B 5 1 (.slice (some ⟨g, 0, none⟩) (n + 1) c) (n + 1) (vs ++ [.int .u8 x])) (hg : w.grownBy w1 v.ownBlock) :
    EncPushed B p w v y z n vs x (w1.setCell ⟨p, 0, none⟩ (.slice (some ⟨g, 0, none⟩) (n + 1) c)) := by
  refine ⟨g, c, he.set0 _, ?_, ⟨hg.os, hg.tape, hg.output, Nat.le_trans hg.size (by simp [World.setCell]), fun k hk hkp hko => ?_⟩⟩
  · have hne := he.ne_own ho
    obtain ⟨h1, h2⟩ := ho
    refine ⟨h1, ?_⟩
    rcases h2 with h2 | ⟨g', cap, cur, hv, hg', hh, r⟩
    · exact Or.inl h2
    · refine Or.inr ⟨g', cap, cur, hv, hg', ?_, r⟩
      simp only [Value.slice.injEq, Option.some.injEq, Addr.mk.injEq] at hv
      obtain ⟨⟨rfl, _⟩, _⟩ := hv
      rw [Below.heap_setCell _ _ _ _ (fun e => hne (by simp [Value.ownBlock, e]))]
      exact hh
  · rw [Below.heap_setCell _ _ _ _ hkp]
    exact hg.block k hk hko

set_option maxHeartbeats 400000 in
theorem state16 (B p : Nat) (A : Option Addr) (n c : Nat) (y z : Value) (vs : List Value) (x : Int) (w : World) (h : w.ownsRow B 5 1 (.slice A n c) n vs) (he : Enc w p (.slice A n c) y z) (hB : B ≤ w.heap.size) (hn : n ≤ 2000000) :
    Calls Try.prog 16 #[.pointer (some ⟨p, 0, none⟩), .int .u8 x] w fun e w' => e = .returned (.tuple #[]) ∧ EncPushed B p w (.slice A n c) y z n vs x w' := by
  have c0 := he.cell0
  go_enter Try.func16, Try.ntmps16
  go_wp2_with (at_builtin; refine wpList_push rfl (.tmp 8) (.tmp 10) rfl B _ n vs x rfl rfl h hB hn ?_; intro g c' w1 ho hg; have he1 := he.grown hg (he.ne_own h); have c1 := he1.cell0; have f1 := he1.free 0)
  go_end0
  exact ⟨rfl, enc_pushed he1 ho hg⟩

set_option maxHeartbeats 400000 in
theorem encState8 (B p : Nat) (A : Option Addr) (n c : Nat) (y z : Value) (vs : List Value) (x : Int) (w : World) (h : w.ownsRow B 5 1 (.slice A n c) n vs) (he : Enc w p (.slice A n c) y z) (hB : B ≤ w.heap.size) (hn : n ≤ 2000000) :
    Calls Try.prog 8 #[.pointer (some ⟨p, 0, none⟩), .int .u8 x] w fun e w' => e = .returned (.tuple #[]) ∧ EncPushed B p w (.slice A n c) y z n vs x w' := by
  go_enter Try.func8, Try.ntmps8
  go_wp2_with fail
  refine (state16 B p A n c y z vs x _ h he hB hn).mono ?_
  rintro e w' ⟨rfl, hp⟩
  go_wp2_with fail
  go_end0
  exact ⟨rfl, hp⟩

set_option maxHeartbeats 400000 in
theorem uint17 (B p : Nat) (A : Option Addr) (n c : Nat) (y z : Value) (vs : List Value) (x : Int) (w : World) (h : w.ownsRow B 5 1 (.slice A n c) n vs) (he : Enc w p (.slice A n c) y z) (hB : B ≤ w.heap.size) (hn : n ≤ 2000000) (h0 : 0 ≤ x) (hx : x < 128) :
    Calls Try.prog 17 #[.pointer (some ⟨p, 0, none⟩), .int .u64 x] w fun e w' => e = .returned (.tuple #[]) ∧ EncPushed B p w (.slice A n c) y z n vs x w' := by
  have c0 := he.cell0
  go_enter Try.func17, Try.ntmps17
  go_wp2_with fail
  refine (uvarint18 B A n c vs x _ h hB hn h0 hx).mono ?_
  rintro e w1 ⟨g, c', rfl, ho, hg⟩
  have he1 := he.grown hg (he.ne_own h)
  have c1 := he1.cell0
  have f1 := he1.free 0
  go_wp2_with fail
  go_end0
  exact ⟨rfl, enc_pushed he1 ho hg⟩

set_option maxHeartbeats 400000 in
theorem encUint15 (B p : Nat) (A : Option Addr) (n c : Nat) (y z : Value) (vs : List Value) (x : Int) (w : World) (h : w.ownsRow B 5 1 (.slice A n c) n vs) (he : Enc w p (.slice A n c) y z) (hB : B ≤ w.heap.size) (hn : n ≤ 2000000) (h0 : 0 ≤ x) (hx : x < 128) :
    Calls Try.prog 15 #[.pointer (some ⟨p, 0, none⟩), .int .u64 x] w fun e w' => e = .returned (.tuple #[]) ∧ EncPushed B p w (.slice A n c) y z n vs x w' := by
  go_enter Try.func15, Try.ntmps15
  go_wp2_with fail
  refine (uint17 B p A n c y z vs x _ h he hB hn h0 hx).mono ?_
  rintro e w' ⟨rfl, hp⟩
  go_wp2_with fail
  go_end0
  exact ⟨rfl, hp⟩

end Go.Proofs.Qxb6614772a
