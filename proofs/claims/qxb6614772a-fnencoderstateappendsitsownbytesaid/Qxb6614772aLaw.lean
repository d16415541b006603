/- FnEncoderStateAppendsItsOwnByte: the walk. -/
import Derived.Test.Qxb6614772aApp
namespace Go.Proofs.Qxb6614772a
open Go.RowKit

theorem below_kept2 {B p : Nat} {w0 w w' : World} {o : Option Nat} (hb : Below B w0 w) (hk : Kept2 w w' p o) (hB : B ≤ w.heap.size) (hp : B ≤ p) (ho : ∀ k, o = some k → B ≤ k) : Below B w0 w' :=
  hb.trans ⟨hk.os, hk.tape, hk.output, hk.size, fun k hlt => hk.block k (by omega) (by omega) (fun e => by have := ho k e.symm; omega)⟩

theorem own_kept2 {w w' : World} {B n p : Nat} {e : TypeId} {v : Value} {vs : List Value} {o : Option Nat} (h : w.ownsRow B e 1 v n vs) (hk : Kept2 w w' p o) (hp : ∀ k, v.ownBlock = some k → k ≠ p) (ho : ∀ k, v.ownBlock = some k → some k ≠ o) : w'.ownsRow B e 1 v n vs := by
  obtain ⟨h1, h2⟩ := h
  refine ⟨h1, ?_⟩
  rcases h2 with h2 | ⟨g, cap, cur, rfl, hg, hh, r⟩
  · exact Or.inl h2
  · exact Or.inr ⟨g, cap, cur, rfl, hg, (hk.block g (Array.getElem?_eq_some_iff.1 hh).1 (hp g rfl) (ho g rfl)).trans hh, r⟩

theorem own_cap {w : World} {B n m c : Nat} {e : TypeId} {A : Option Addr} {vs : List Value} (h : w.ownsRow B e 1 (.slice A (n + 1) c) m vs) : m ≤ c := by
  rcases h.2 with ⟨hv, _⟩ | ⟨g, cap, cur, hv, _, _, hc, _⟩
  · simp at hv
  · simp only [Value.slice.injEq] at hv
    obtain ⟨_, _, rfl⟩ := hv
    exact hc

theorem bytes_snoc (zs : List Int) (x : Int) : bytesV zs ++ [.int .u8 x] = bytesV (zs ++ [x]) := by simp [bytesV]

/-- The first n of n + 1. -/
theorem Row.front {w : World} {a : Option Addr} {n : Nat} {zs : List Int} {x : Int} (h : Row w a (n + 1) (bytesV (zs ++ [x]))) (hn : zs.length = n) : Row w a n (bytesV zs) := by
  refine ⟨by rw [bytes_len]; exact hn, fun i hi => h.addr i (by omega), fun i v hi => h.cells i v ?_⟩
  rw [← bytes_snoc]
  rw [List.getElem?_append_left (List.getElem?_eq_some_iff.1 hi).1]
  exact hi
theorem Row.last {w : World} {g n : Nat} {zs : List Int} {x : Int} (h : Row w (some ⟨g, 0, none⟩) (n + 1) (bytesV (zs ++ [x]))) (hn : zs.length = n) : w.cell? ⟨g, n, none⟩ = some (.int .u8 x) := by
  rw [← pt_block]
  refine h.cells n _ ?_
  rw [← bytes_snoc, List.getElem?_append_right (by rw [bytes_len]; omega)]
  simp [bytes_len, hn]

set_option maxRecDepth 100000 in
set_option maxHeartbeats 2000000 in
theorem law3 (a0 a1 a2 : Option Addr) (n0 n1 n2 c0 c1 c2 : Nat) (zs0 zs1 : List Int) (ss : List ByteArray) (x : Int) (w : World)
    (h0 : Row w a0 n0 (bytesV zs0)) (h1 : Row w a1 n1 (bytesV zs1)) (h2 : Row w a2 n2 (strsV ss)) (x0 : 0 ≤ x) (x1 : x ≤ 255) (hm1 : n1 ≤ maxLen) (hm2 : n2 ≤ maxLen) :
    Calls Try.prog 3 #[.slice a0 n0 c0, .slice a1 n1 c1, .slice a2 n2 c2, .int .u8 x] w fun e w' => e = .returned (.bool true) ∧ Below w.heap.size w w' := by
  unfold maxLen at hm1 hm2
  go_enter Try.func3, Try.ntmps3
  go_wp2_with fail
  refine (bytes4 a0 a1 a2 n0 n1 n2 c0 c1 c2 ss x _ h2).mono ?_
  rintro e w' ⟨⟨b, rfl⟩, hw⟩
  cases hw.symm
  cases b
  · go_wp2_with fail
    go_ret
    exact ⟨rfl, Below.refl _ _⟩
  by_cases hn0 : n0 ≤ 1048576
  case neg =>
    go_wp2_with fail
    go_ret
    exact ⟨rfl, Below.refl _ _⟩
  by_cases hn1 : n1 + n0 ≤ 1048576
  case neg =>
    go_wp2_with fail
    go_ret
    exact ⟨rfl, Below.refl _ _⟩
  go_wp2_with fail
  go_loop [9, 10] (fun t i => ∃ (j : Nat) (q : Int), j ≤ n2 ∧ i = .int .i64 j ∧ t = .int .i64 q ∧ 16 * (j : Int) ≤ q ∧ q ≤ 1048576) (fun _ i => n2 - (intOf i).toNat)
  case atStart => exact ⟨0, _, Nat.zero_le _, rfl, rfl, by omega, by omega⟩
  case round =>
    obtain ⟨j, q, hj, rfl, rfl, hq0, hq1⟩ := hrel
    by_cases hlt : j < n2
    · have hi := ix23 (c := c2) (h2.addr j hlt) hlt
      have hc := h2.str hlt
      generalize ss.getD j ByteArray.empty = kk at hc
      go_wp2_with fail
      · go_ret
        exact ⟨rfl, Below.refl _ _⟩
      · go_ret
        exact ⟨rfl, Below.refl _ _⟩
      · go_round
        case rel => exact ⟨j + 1, _, by omega, by go_num, rfl, by omega, by omega⟩
        case measure => simp [intOf]; omega
    · have e2 : n2 = j := by omega
      subst e2
      have hl0 : zs0.length = n0 := by rw [← bytes_len]; exact h0.len
      go_wp2_with fail
      refine (clone6 a0 n0 c0 zs0 _ h0 (by omega)).mono ?_
      rintro e w1 ⟨A0, d0, rfl, hA0, o0, B1⟩
      go_wp2_with fail
      refine (clone6 a1 n1 c1 zs1 _ (h1.keep B1) (by omega)).mono ?_
      rintro e w2 ⟨A1, d1, rfl, hA1, o1, B2⟩
      go_wp2_with fail
      refine (clone7 a2 n2 c2 ss _ ((h2.keep B1).keep B2) (by omega)).mono ?_
      rintro e w3 ⟨A2, d2, rfl, hA2, o2, B3⟩
      go_wp2_with fail
      refine (new5 _ _ _ A0 A1 A2 n0 n1 n2 d0 d1 d2 rfl rfl rfl _).mono ?_
      rintro e w4 ⟨rfl, hw4⟩
      have B4 : Below w3.heap.size w3 w4 := by rw [hw4]; exact (Below.refl _ _).alloc (Nat.le_refl _) _
      have E4 : Enc w4 w3.heap.size (.slice A0 n0 d0) (.slice A1 n1 d1) (.slice A2 n2 d2) := by rw [hw4]; exact (MapKept.heap_alloc w3 _).1
      clear hw4
      have z1 := B1.size
      have z2 := B2.size
      have z3 := B3.size
      have z4 := B4.size
      have o04 := own_below (own_below (own_below o0 B2) B3) B4
      have o14 := own_below (own_below o1 B3) B4
      have o24 := own_below o2 B4
      go_wp2_with fail
      refine (encState8 w.heap.size w3.heap.size A0 n0 d0 _ _ (bytesV zs0) x _ o04 E4 (by omega) (by omega)).mono ?_
      rintro e w5 ⟨rfl, g, c', E5, o5, K5⟩
      rw [bytes_snoc] at o5
      have z5 := K5.size
      have L0 := o0.lt
      have L1 := o1.lt
      have L2 := o2.lt
      have o15 := own_kept2 o14 K5 (fun k hk => by have := L1 k hk; omega) (fun k hk e => by have := L1 k hk; have := L0 k e.symm; omega)
      have o25 := own_kept2 o24 K5 (fun k hk => by have := L2 k hk; omega) (fun k hk e => by have := L2 k hk; have := L0 k e.symm; omega)
      have BW4 : Below w.heap.size w w4 := ((B1.trans (B2.mono z1)).trans (B3.mono (by omega))).trans (B4.mono (by omega))
      have BW5 := below_kept2 BW4 K5 (by omega) (by omega) (fun k hk => (L0 k hk).1)
      have R5 := row_of_own o5
      clear o0 o1 o2 o04 o14 o24 K5 E4 B1 B2 B3 B4 L0 L1 L2
      go_wp2_with fail
      refine (get9 _ _ _ _ _ E5.cell0).mono ?_
      rintro e w' ⟨rfl, hw⟩
      cases hw.symm
      have hcap : n0 + 1 ≤ c' := own_cap o5
      go_wp2_with fail
      refine (equal10 _ _ n0 _ _ zs0 _ (R5.front hl0) (h0.keep BW5) (by omega)).mono ?_
      rintro e w6 ⟨rfl, B6⟩
      have z6 := B6.size
      have hcl := (R5.keep B6).last hl0
      have E6 : Enc w6 w3.heap.size (.slice (some ⟨g, 0, none⟩) (n0 + 1) c') (.slice A1 n1 d1) (.slice A2 n2 d2) := (B6.block _ E5.lt).trans E5
      have o16 := own_below o15 B6
      have o26 := own_below o25 B6
      have o6 := own_below o5 B6
      have BW6 : Below w.heap.size w w6 := BW5.trans (B6.mono (by omega))
      clear o15 o25 o5 E5 R5 BW5 B6
      go_wp2_with fail
      refine (get12 _ _ _ _ _ E6.cell1).mono ?_
      rintro e w' ⟨rfl, hw⟩
      cases hw.symm
      go_wp2_with fail
      refine (same11 _ _ n1 _ _ zs1 _ (row_of_own o16) (h1.keep BW6) (by omega) hA1).mono ?_
      rintro e w7 ⟨rfl, B7⟩
      have z7 := B7.size
      have E7 : Enc w7 w3.heap.size (.slice (some ⟨g, 0, none⟩) (n0 + 1) c') (.slice A1 n1 d1) (.slice A2 n2 d2) := (B7.block _ E6.lt).trans E6
      have o27 := own_below o26 B7
      have o7 := own_below o6 B7
      have BW7 : Below w.heap.size w w7 := BW6.trans (B7.mono (by omega))
      clear o16 o26 o6 E6 BW6 B7 hcl
      go_wp2_with fail
      refine (get14 _ _ _ _ _ E7.cell2).mono ?_
      rintro e w' ⟨rfl, hw⟩
      cases hw.symm
      go_wp2_with fail
      refine (same13 _ _ n2 _ _ ss _ (row_of_own o27) (h2.keep BW7) (by omega) hA2).mono ?_
      rintro e w8 ⟨rfl, B8⟩
      have z8 := B8.size
      have o8 := own_below o7 B8
      have BW8 : Below w.heap.size w w8 := BW7.trans (B8.mono (by omega))
      clear o27 o7 E7 BW7 B8
      by_cases hx : x < 128
      case neg =>
        go_wp2_with fail
        go_ret
        exact ⟨rfl, BW8⟩
      go_wp2_with fail
      refine (clone6 a0 n0 c0 zs0 _ (h0.keep BW8) (by omega)).mono ?_
      rintro e w9 ⟨A9, d9, rfl, hA9, o9, B9⟩
      go_wp2_with fail
      refine (new5 _ _ _ A9 none none n0 0 0 d9 0 0 rfl rfl rfl _).mono ?_
      rintro e w10 ⟨rfl, hw10⟩
      have B10 : Below w9.heap.size w9 w10 := by rw [hw10]; exact (Below.refl _ _).alloc (Nat.le_refl _) _
      have E10 : Enc w10 w9.heap.size (.slice A9 n0 d9) (.slice none 0 0) (.slice none 0 0) := by rw [hw10]; exact (MapKept.heap_alloc w9 _).1
      clear hw10
      have z9 := B9.size
      have z10 := B10.size
      have o910 := own_below o9 B10
      have o810 := own_below (own_below o8 B9) B10
      go_wp2_with fail
      refine (encUint15 w8.heap.size w9.heap.size A9 n0 d9 _ _ (bytesV zs0) x _ o910 E10 (by omega) (by omega) x0 hx).mono ?_
      rintro e w11 ⟨rfl, g', c'', E11, o11, K11⟩
      rw [bytes_snoc] at o11
      have z11 := K11.size
      have L8 := o8.lt
      have L9 := o9.lt
      have o811 := own_kept2 o810 K11 (fun k hk => by have := L8 k hk; omega) (fun k hk e => by have := L8 k hk; have := L9 k e.symm; omega)
      have BW10 : Below w.heap.size w w10 := (BW8.trans (B9.mono (by omega))).trans (B10.mono (by omega))
      have BW11 := below_kept2 BW10 K11 (by omega) (by omega) (fun k hk => by have := L9 k hk; omega)
      clear o8 o9 o910 o810 K11 E10 B9 B10 L8 L9
      go_wp2_with fail
      refine (get9 _ _ _ _ _ E11.cell0).mono ?_
      rintro e w' ⟨rfl, hw⟩
      cases hw.symm
      go_wp2_with fail
      refine (equal10 _ _ (n0 + 1) _ _ (zs0 ++ [x]) _ (row_of_own o11) (row_of_own o811) (by omega)).mono ?_
      rintro e w12 ⟨rfl, B12⟩
      go_wp2_with fail
      go_ret
      exact ⟨rfl, BW11.trans (B12.mono (by omega))⟩

end Go.Proofs.Qxb6614772a
