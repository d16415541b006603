/- FnLastAppliedLastWriteWins: the walk. -/
import Derived.Test.Qxb6615993aOwn
import Derived.Test.Qxb6615993aBytes
import Derived.Test.Qxb6615993aModel
import Derived.Test.Qxb6615993aPairs
namespace Go.Proofs.Qxb6615993a
open Go.RowKit

set_option maxHeartbeats 400000 in
theorem law3_long (a0 a1 : Option Addr) (n0 n1 c0 c1 : Nat) (s0 s1 : List ByteArray) (k x : ByteArray) (w : World)
    (h0 : StrRow w a0 n0 s0) (h1 : StrRow w a1 n1 s1) (hn : ¬ (n0 ≤ 65536 ∧ n1 ≤ 65536)) :
    Calls Try.prog 3 #[.slice a0 n0 c0, .slice a1 n1 c1, .string k, .string x] w fun e w' => e = .returned (.bool true) ∧ Below w.heap.size w w' := by
  go_enter Try.func3, Try.ntmps3
  go_wp2_with fail
  refine (bytes6 a0 a1 n0 n1 c0 c1 s0 s1 k x _ h0 h1).mono ?_
  rintro e w' ⟨⟨b, rfl⟩, hw⟩
  cases hw.symm
  by_cases hn0 : n0 ≤ 65536
  · have hn1 : ¬ n1 ≤ 65536 := fun h => hn ⟨hn0, h⟩
    clear hn
    go_wp2_with fail
    all_goals
      go_ret
      exact ⟨rfl, Below.refl _ _⟩
  · clear hn
    go_wp2_with fail
    all_goals
      go_ret
      exact ⟨rfl, Below.refl _ _⟩

theorem chain5 {w W wA wB wC wD : World} (HB : Below w.heap.size w W) (hbA : Below W.heap.size W wA) (hbB : Below wA.heap.size wA wB) (hbC : Below wB.heap.size wB wC) (hbD : Below wC.heap.size wC wD) : Below w.heap.size w wD := by
  have s1 := HB.size
  have s2 := hbA.size
  have s3 := hbB.size
  have s4 := hbC.size
  exact (((HB.trans (hbA.mono (by omega))).trans (hbB.mono (by omega))).trans (hbC.mono (by omega))).trans (hbD.mono (by omega))

set_option maxHeartbeats 2000000 in
theorem law3 (a0 a1 : Option Addr) (n0 n1 c0 c1 : Nat) (s0 s1 : List ByteArray) (k x : ByteArray) (w : World)
    (h0 : StrRow w a0 n0 s0) (h1 : StrRow w a1 n1 s1) (hk : k.size ≤ maxLen) (hx : x.size ≤ maxLen) :
    Calls Try.prog 3 #[.slice a0 n0 c0, .slice a1 n1 c1, .string k, .string x] w fun e w' => e = .returned (.bool true) ∧ Below w.heap.size w w' := by
  by_cases hn : n0 ≤ 65536 ∧ n1 ≤ 65536
  case neg => exact law3_long a0 a1 n0 n1 c0 c1 s0 s1 k x w h0 h1 hn
  obtain ⟨hn0, hn1⟩ := hn
  have hne0 := fun w => run_neq_slice_nil_any (P := Try.prog) w 22 9 a0 n0 c0 0 0 Try.underlying22
  have hne1 := fun w => run_neq_slice_nil_any (P := Try.prog) w 22 9 a1 n1 c1 0 0 Try.underlying22
  have hmk0 := mk22 n0 (by omega)
  have hmk1 := mk22 n1 (by omega)
  go_enter Try.func3, Try.ntmps3
  go_wp2_with fail
  refine (bytes6 a0 a1 n0 n1 c0 c1 s0 s1 k x _ h0 h1).mono ?_
  rintro e w' ⟨⟨b, rfl⟩, hw⟩
  cases hw.symm
  cases b
  · go_wp2_with fail
    go_ret
    exact ⟨rfl, Below.refl _ _⟩
  go_wp2_with fail
  refine (pairs7 a0 a1 n0 n1 c0 c1 s0 s1 k x _ h0 h1 hn0 hn1).mono ?_
  rintro e w' ⟨⟨b, rfl⟩, hw⟩
  cases hw.symm
  cases b
  rotate_left
  · go_wp2_with fail
    go_ret
    exact ⟨rfl, Below.refl _ _⟩
  by_cases hnn : n0 = n1
  case neg =>
    go_wp2_with fail
    go_ret
    exact ⟨rfl, Below.refl _ _⟩
  subst hnn
  cases a0
  all_goals cases a1
  · have R0 := h0
    have R1 := h1
    have HB := Below.refl w.heap.size w
    go_wp2_with fail
    refine (model8 _ _ n0 _ _ s0 s1 _ R0 R1 hn0).mono ?_
    rintro e wm ⟨rfl, hw⟩
    cases hw.symm
    go_wp2_with fail
    refine (pairs9 _ _ n0 _ _ s0 s1 _ R0 R1 (by omega)).mono ?_
    rintro e wA ⟨rfl, hbA⟩
    have R0A := R0.keep hbA
    have R1A := R1.keep hbA
    cases hkey : isKey k
    all_goals
      have hkt := hkey
      unfold isKey keyL at hkt
      go_wp2_with fail
      refine (append10 _ n0 _ s0 k _ R0A hk hn0).mono ?_
      rintro e wB ⟨rfl, S0, hbB⟩
      have R1B := R1A.keep hbB
      go_wp2_with fail
      refine (append10 _ n0 _ s1 x _ R1B hx hn0).mono ?_
      rintro e wC ⟨rfl, S1, hbC⟩
      have P2 := pairs9 _ _ (n0 + 1) (n0 + 1) (n0 + 1) (s0 ++ [k]) (s1 ++ [x]) _ (S0.keep hbC) S1 (by omega)
      rw [zip_snoc s0 s1 (h0.len.trans h1.len.symm), look_snoc] at P2
      simp only [hkey, if_true, Bool.false_eq_true, if_false] at P2
      go_wp2_with fail
      refine P2.mono ?_
      rintro e wD ⟨rfl, hbD⟩
      go_wp2_with fail
      go_ret
      exact ⟨rfl, chain5 HB hbA hbB hbC hbD⟩
  · go_wp2_with (with_reducible refine at_copy ?_; refine wpList_copy_strs rfl _ _ rfl _ _ _ _ s1 rfl rfl (h1.keep ((Below.refl _ _).alloc (Nat.le_refl _) _)) _ (MapKept.heap_alloc w _).1 (size_madeCells _ _) w.heap.size w ((Below.refl _ _).alloc (Nat.le_refl _) _) (Nat.le_refl _) ?_; intro w1 R1 HB hb1)
    have R0 := h0.keep HB
    refine (model8 _ _ n0 _ _ s0 s1 _ R0 R1 hn0).mono ?_
    rintro e wm ⟨rfl, hw⟩
    cases hw.symm
    go_wp2_with fail
    refine (pairs9 _ _ n0 _ _ s0 s1 _ R0 R1 (by omega)).mono ?_
    rintro e wA ⟨rfl, hbA⟩
    have R0A := R0.keep hbA
    have R1A := R1.keep hbA
    cases hkey : isKey k
    all_goals
      have hkt := hkey
      unfold isKey keyL at hkt
      go_wp2_with fail
      refine (append10 _ n0 _ s0 k _ R0A hk hn0).mono ?_
      rintro e wB ⟨rfl, S0, hbB⟩
      have R1B := R1A.keep hbB
      go_wp2_with fail
      refine (append10 _ n0 _ s1 x _ R1B hx hn0).mono ?_
      rintro e wC ⟨rfl, S1, hbC⟩
      have P2 := pairs9 _ _ (n0 + 1) (n0 + 1) (n0 + 1) (s0 ++ [k]) (s1 ++ [x]) _ (S0.keep hbC) S1 (by omega)
      rw [zip_snoc s0 s1 (h0.len.trans h1.len.symm), look_snoc] at P2
      simp only [hkey, if_true, Bool.false_eq_true, if_false] at P2
      go_wp2_with fail
      refine P2.mono ?_
      rintro e wD ⟨rfl, hbD⟩
      go_wp2_with fail
      go_ret
      exact ⟨rfl, chain5 HB hbA hbB hbC hbD⟩
  · go_wp2_with (with_reducible refine at_copy ?_; refine wpList_copy_strs rfl _ _ rfl _ _ _ _ s0 rfl rfl (h0.keep ((Below.refl _ _).alloc (Nat.le_refl _) _)) _ (MapKept.heap_alloc w _).1 (size_madeCells _ _) w.heap.size w ((Below.refl _ _).alloc (Nat.le_refl _) _) (Nat.le_refl _) ?_; intro w1 R0 HB hb1)
    have R1 := h1.keep HB
    refine (model8 _ _ n0 _ _ s0 s1 _ R0 R1 hn0).mono ?_
    rintro e wm ⟨rfl, hw⟩
    cases hw.symm
    go_wp2_with fail
    refine (pairs9 _ _ n0 _ _ s0 s1 _ R0 R1 (by omega)).mono ?_
    rintro e wA ⟨rfl, hbA⟩
    have R0A := R0.keep hbA
    have R1A := R1.keep hbA
    cases hkey : isKey k
    all_goals
      have hkt := hkey
      unfold isKey keyL at hkt
      go_wp2_with fail
      refine (append10 _ n0 _ s0 k _ R0A hk hn0).mono ?_
      rintro e wB ⟨rfl, S0, hbB⟩
      have R1B := R1A.keep hbB
      go_wp2_with fail
      refine (append10 _ n0 _ s1 x _ R1B hx hn0).mono ?_
      rintro e wC ⟨rfl, S1, hbC⟩
      have P2 := pairs9 _ _ (n0 + 1) (n0 + 1) (n0 + 1) (s0 ++ [k]) (s1 ++ [x]) _ (S0.keep hbC) S1 (by omega)
      rw [zip_snoc s0 s1 (h0.len.trans h1.len.symm), look_snoc] at P2
      simp only [hkey, if_true, Bool.false_eq_true, if_false] at P2
      go_wp2_with fail
      refine P2.mono ?_
      rintro e wD ⟨rfl, hbD⟩
      go_wp2_with fail
      go_ret
      exact ⟨rfl, chain5 HB hbA hbB hbC hbD⟩
  · go_wp2_with (first | (with_reducible refine at_copy ?_; refine wpList_copy_strs rfl (.tmp 44) (.tmp 45) rfl _ _ _ _ s0 rfl rfl (h0.keep ((Below.refl _ _).alloc (Nat.le_refl _) _)) _ (MapKept.heap_alloc w _).1 (size_madeCells _ _) w.heap.size w ((Below.refl _ _).alloc (Nat.le_refl _) _) (Nat.le_refl _) ?_; intro w1 R0a HBa hb1) | (with_reducible refine at_copy ?_; refine wpList_copy_strs rfl (.tmp 53) (.tmp 54) rfl _ _ _ _ s1 rfl rfl ((h1.keep HBa).keep ((Below.refl _ _).alloc (Nat.le_refl _) _)) _ (MapKept.heap_alloc w1 _).1 (size_madeCells _ _) w.heap.size w (HBa.alloc HBa.size _) HBa.size ?_; intro w2 R1 HB hb2))
    have R0 := R0a.keep (((Below.refl _ _).alloc (Nat.le_refl _) _).trans hb2)
    refine (model8 _ _ n0 _ _ s0 s1 _ R0 R1 hn0).mono ?_
    rintro e wm ⟨rfl, hw⟩
    cases hw.symm
    go_wp2_with fail
    refine (pairs9 _ _ n0 _ _ s0 s1 _ R0 R1 (by omega)).mono ?_
    rintro e wA ⟨rfl, hbA⟩
    have R0A := R0.keep hbA
    have R1A := R1.keep hbA
    cases hkey : isKey k
    all_goals
      have hkt := hkey
      unfold isKey keyL at hkt
      go_wp2_with fail
      refine (append10 _ n0 _ s0 k _ R0A hk hn0).mono ?_
      rintro e wB ⟨rfl, S0, hbB⟩
      have R1B := R1A.keep hbB
      go_wp2_with fail
      refine (append10 _ n0 _ s1 x _ R1B hx hn0).mono ?_
      rintro e wC ⟨rfl, S1, hbC⟩
      have P2 := pairs9 _ _ (n0 + 1) (n0 + 1) (n0 + 1) (s0 ++ [k]) (s1 ++ [x]) _ (S0.keep hbC) S1 (by omega)
      rw [zip_snoc s0 s1 (h0.len.trans h1.len.symm), look_snoc] at P2
      simp only [hkey, if_true, Bool.false_eq_true, if_false] at P2
      go_wp2_with fail
      refine P2.mono ?_
      rintro e wD ⟨rfl, hbD⟩
      go_wp2_with fail
      go_ret
      exact ⟨rfl, chain5 HB hbA hbB hbC hbD⟩

end Go.Proofs.Qxb6615993a
