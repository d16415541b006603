/- The small functions of this seat: clones, comparisons, getters, the bound. -/
import Derived.Test.Qxb6614772aBase
import Derived.Deep.QuietTactic
import Derived.BigQuiet
namespace Go.Proofs.Qxb6614772a
open Go.RowKit

/-- A clone: the same values, in memory of its own; nil just if the source is. -/
def Cloned (w : World) (E : TypeId) (a : Option Addr) (n : Nat) (vs : List Value) (e : Ending) (w' : World) : Prop :=
  ∃ A c, e = .returned (.slice A n c) ∧ A.isNone = a.isNone ∧ w'.ownsRow w.heap.size E 1 (.slice A n c) n vs ∧ Below w.heap.size w w'

theorem Row.nil {w : World} {n : Nat} {vs : List Value} (h : Row w none n vs) : n = 0 ∧ vs = [] := by
  have hn : n = 0 := by
    by_cases e : n = 0
    · exact e
    · exact absurd rfl (h.addr 0 (by omega))
  refine ⟨hn, List.eq_nil_of_length_eq_zero (by rw [h.len]; exact hn)⟩

set_option maxHeartbeats 400000 in
theorem clone6 (a : Option Addr) (n c : Nat) (zs : List Int) (w : World) (h : Row w a n (bytesV zs)) (hn : n ≤ 2000000) :
    Calls Try.prog 6 #[.slice a n c] w fun e w' => Cloned w 5 a n (bytesV zs) e w' := by
  have hq := fun w => Lib.run_eql_slice_nil (P := Try.prog) w 22 5 a n c 0 0 Try.underlying22
  have hmk := mk22 n hn
  cases a with
  | none =>
    obtain ⟨rfl, hz⟩ := h.nil
    rw [hz]
    go_enter Try.func6, Try.ntmps6
    go_wp2
    go_ret
    exact ⟨none, 0, rfl, rfl, World.ownsRow_nil _ _ _ _, Below.refl _ _⟩
  | some p =>
    go_enter Try.func6, Try.ntmps6
    go_wp2_with (with_reducible refine at_copy ?_; refine wpList_copy_row rfl _ _ 22 5 rfl Try.underlying22 Try.size5 _ _ _ _ (bytesV zs) rfl rfl (h.keep ((Below.refl _ _).alloc (Nat.le_refl _) _)) (bytes_one zs) (by unfold maxLen; omega) _ (MapKept.heap_alloc w _).1 (size_madeCells _ _) ?_; intro w1 ho hb)
    go_ret
    exact ⟨_, _, rfl, rfl, ho, ((Below.refl _ _).alloc (Nat.le_refl _) _).trans hb⟩

set_option maxHeartbeats 400000 in
theorem clone7 (a : Option Addr) (n c : Nat) (ss : List ByteArray) (w : World) (h : Row w a n (strsV ss)) (hn : n ≤ 2000000) :
    Calls Try.prog 7 #[.slice a n c] w fun e w' => Cloned w 9 a n (strsV ss) e w' := by
  have hq := fun w => Lib.run_eql_slice_nil (P := Try.prog) w 23 9 a n c 0 0 Try.underlying23
  have hmk := mk23 n hn
  cases a with
  | none =>
    obtain ⟨rfl, hz⟩ := h.nil
    rw [hz]
    go_enter Try.func7, Try.ntmps7
    go_wp2
    go_ret
    exact ⟨none, 0, rfl, rfl, World.ownsRow_nil _ _ _ _, Below.refl _ _⟩
  | some p =>
    go_enter Try.func7, Try.ntmps7
    go_wp2_with (with_reducible refine at_copy ?_; refine wpList_copy_row rfl _ _ 23 9 rfl Try.underlying23 Try.size9 _ _ _ _ (strsV ss) rfl rfl (h.keep ((Below.refl _ _).alloc (Nat.le_refl _) _)) (strs_one ss) (by unfold maxLen; omega) _ (MapKept.heap_alloc w _).1 (size_madeCells _ _) ?_; intro w1 ho hb)
    go_ret
    exact ⟨_, _, rfl, rfl, ho, ((Below.refl _ _).alloc (Nat.le_refl _) _).trans hb⟩

set_option maxHeartbeats 400000 in
theorem new5 (x y z : Value) (a0 a1 a2 : Option Addr) (n0 n1 n2 c0 c1 c2 : Nat) (hx : x = .slice a0 n0 c0) (hy : y = .slice a1 n1 c1) (hz : z = .slice a2 n2 c2) (w : World) :
    Calls Try.prog 5 #[x, y, z] w fun e w' => e = .returned (.pointer (some ⟨w.heap.size, 0, none⟩)) ∧ w' = w.alloc (.cells #[x, y, z] 38) := by
  subst hx hy hz
  go_enter Try.func5, Try.ntmps5
  go_wp2
  go_ret
  exact ⟨rfl, rfl⟩

set_option maxHeartbeats 400000 in
theorem get9 (p : Nat) (a : Option Addr) (n c : Nat) (w : World) (h : w.cell? ⟨p, 0, none⟩ = some (.slice a n c)) :
    Calls Try.prog 9 #[.pointer (some ⟨p, 0, none⟩)] w fun e w' => e = .returned (.slice a n c) ∧ w' = w := by
  go_enter Try.func9, Try.ntmps9
  go_wp2
  go_ret
  exact ⟨rfl, rfl⟩
set_option maxHeartbeats 400000 in
theorem get12 (p : Nat) (a : Option Addr) (n c : Nat) (w : World) (h : w.cell? ⟨p, 1, none⟩ = some (.slice a n c)) :
    Calls Try.prog 12 #[.pointer (some ⟨p, 0, none⟩)] w fun e w' => e = .returned (.slice a n c) ∧ w' = w := by
  go_enter Try.func12, Try.ntmps12
  go_wp2
  go_ret
  exact ⟨rfl, rfl⟩
set_option maxHeartbeats 400000 in
theorem get14 (p : Nat) (a : Option Addr) (n c : Nat) (w : World) (h : w.cell? ⟨p, 2, none⟩ = some (.slice a n c)) :
    Calls Try.prog 14 #[.pointer (some ⟨p, 0, none⟩)] w fun e w' => e = .returned (.slice a n c) ∧ w' = w := by
  go_enter Try.func14, Try.ntmps14
  go_wp2
  go_ret
  exact ⟨rfl, rfl⟩

set_option maxHeartbeats 400000 in
theorem equal10 (a b : Option Addr) (n c d : Nat) (zs : List Int) (w : World) (h0 : Row w a n (bytesV zs)) (h1 : Row w b n (bytesV zs)) (hn : n ≤ 2000000) :
    Calls Try.prog 10 #[.slice a n c, .slice b n d] w fun e w' => e = .returned (.bool true) ∧ Below w.heap.size w w' := by
  go_enter Try.func10, Try.ntmps10
  go_wp2
  go_loopw [5] (fun i wr => ∃ j : Nat, j ≤ n ∧ i = .int .i64 j ∧ Below w.heap.size w wr) (fun i _ => n - (intOf i).toNat)
  case atStart => exact ⟨0, Nat.zero_le _, rfl, Below.refl _ _⟩
  case round =>
    obtain ⟨j, hj, rfl, hb⟩ := hrel
    by_cases hlt : j < n
    · have hi0 := ix22 (c := c) (h0.addr j hlt) hlt
      have hi1 := ix22 (c := d) (h1.addr j hlt) hlt
      have hc0 := (h0.keep hb).byte hlt
      have hc1 := (h1.keep hb).byte hlt
      generalize zs.getD j 0 = z at hc0 hc1
      go_wp2
      go_quiet (fail)
      go_wp2
      go_roundw
      case rel => exact ⟨j + 1, by omega, by go_num, below_drewN hb _⟩
      case measure => simp [intOf]; omega
    · go_wp2
      go_ret
      exact ⟨rfl, hb⟩

set_option maxHeartbeats 400000 in
theorem same11 (a b : Option Addr) (n c d : Nat) (zs : List Int) (w : World) (h0 : Row w a n (bytesV zs)) (h1 : Row w b n (bytesV zs)) (hn : n ≤ 2000000) (hnil : a.isNone = b.isNone) :
    Calls Try.prog 11 #[.slice a n c, .slice b n d] w fun e w' => e = .returned (.bool true) ∧ Below w.heap.size w w' := by
  have hq0 := fun w => Lib.run_eql_slice_nil (P := Try.prog) w 22 5 a n c 0 0 Try.underlying22
  have hq1 := fun w => Lib.run_eql_slice_nil (P := Try.prog) w 22 5 b n d 0 0 Try.underlying22
  rw [hnil] at hq0
  generalize b.isNone = t at hq0 hq1
  clear hnil
  cases t
  all_goals
    go_enter Try.func11, Try.ntmps11
    go_wp2_with fail
    refine (equal10 a b n c d zs _ h0 h1 hn).mono ?_
    rintro e w' ⟨rfl, hb⟩
    go_wp2_with fail
    go_ret
    exact ⟨rfl, hb⟩

set_option maxHeartbeats 400000 in
theorem same13 (a b : Option Addr) (n c d : Nat) (ss : List ByteArray) (w : World) (h0 : Row w a n (strsV ss)) (h1 : Row w b n (strsV ss)) (hn : n ≤ 2000000) (hnil : a.isNone = b.isNone) :
    Calls Try.prog 13 #[.slice a n c, .slice b n d] w fun e w' => e = .returned (.bool true) ∧ Below w.heap.size w w' := by
  have hq0 := fun w => Lib.run_eql_slice_nil (P := Try.prog) w 23 9 a n c 0 0 Try.underlying23
  have hq1 := fun w => Lib.run_eql_slice_nil (P := Try.prog) w 23 9 b n d 0 0 Try.underlying23
  rw [hnil] at hq0
  generalize b.isNone = t at hq0 hq1
  clear hnil
  cases t
  all_goals
    go_enter Try.func13, Try.ntmps13
    go_wp2
    go_loopw [5] (fun i wr => ∃ j : Nat, j ≤ n ∧ i = .int .i64 j ∧ Below w.heap.size w wr) (fun i _ => n - (intOf i).toNat)
    case atStart => exact ⟨0, Nat.zero_le _, rfl, Below.refl _ _⟩
    case round =>
      obtain ⟨j, hj, rfl, hb⟩ := hrel
      by_cases hlt : j < n
      · have hi0 := ix23 (c := c) (h0.addr j hlt) hlt
        have hi1 := ix23 (c := d) (h1.addr j hlt) hlt
        have hc0 := (h0.keep hb).str hlt
        have hc1 := (h1.keep hb).str hlt
        generalize ss.getD j ByteArray.empty = z at hc0 hc1
        go_wp2
        go_quiet (fail)
        go_wp2
        go_roundw
        case rel => exact ⟨j + 1, by omega, by go_num, below_drewN hb _⟩
        case measure => simp [intOf]; omega
      · go_wp2
        go_ret
        exact ⟨rfl, hb⟩

/-- The call came back with one bool. -/
def OneBool (e : Ending) : Prop := ∃ b : Bool, e = .returned (.bool b)
theorem oneBool (b : Bool) : OneBool (.returned (.bool b)) := ⟨b, rfl⟩

set_option maxHeartbeats 400000 in
theorem bytes4 (a0 a1 a2 : Option Addr) (n0 n1 n2 c0 c1 c2 : Nat) (ss : List ByteArray) (x : Int) (w : World) (h2 : Row w a2 n2 (strsV ss)) :
    Calls Try.prog 4 #[.slice a0 n0 c0, .slice a1 n1 c1, .slice a2 n2 c2, .int .u8 x] w fun e w' => OneBool e ∧ w' = w := by
  go_enter Try.func4, Try.ntmps4
  go_wp2
  iterate 5
    · go_ret
      exact ⟨oneBool _, rfl⟩
  · go_loop [9, 10] (fun z i => ∃ (j : Nat) (q : Int), j ≤ n2 ∧ i = .int .i64 j ∧ z = .int .i64 q) (fun _ i => n2 - (intOf i).toNat)
    case atStart => exact ⟨0, _, Nat.zero_le _, rfl, rfl⟩
    case round =>
      obtain ⟨j, q, hj, rfl, rfl⟩ := hrel
      by_cases hlt : j < n2
      · have hi := ix23 (c := c2) (h2.addr j hlt) hlt
        have hc := h2.str hlt
        go_wp2
        · go_ret
          exact ⟨oneBool _, rfl⟩
        · go_ret
          exact ⟨oneBool _, rfl⟩
        · go_round
          case rel => exact ⟨j + 1, _, by omega, by go_num, rfl⟩
          case measure => simp [intOf]; omega
      · go_wp2
        go_ret
        exact ⟨oneBool _, rfl⟩

end Go.Proofs.Qxb6614772a
