/- FnLastAppliedRefusesNonString: the walk. -/
import Derived.Test.Qxb6615993aLaw1
namespace Go.Proofs.Qxb6615993a
open Go.RowKit

set_option maxHeartbeats 400000 in
theorem law5_long (a0 a1 : Option Addr) (n0 n1 c0 c1 : Nat) (s0 s1 : List ByteArray) (k x : ByteArray) (v : Int) (w : World)
    (h0 : StrRow w a0 n0 s0) (h1 : StrRow w a1 n1 s1) (hn : ¬ (n0 ≤ 65536 ∧ n1 ≤ 65536)) :
    Calls Try.prog 5 #[.slice a0 n0 c0, .slice a1 n1 c1, .string k, .int .i64 v, .string x] w fun e w' => e = .returned (.bool true) ∧ Below w.heap.size w w' := by
  go_enter Try.func5, Try.ntmps5
  go_wp2_with fail
  refine (bytes15 a0 a1 n0 n1 c0 c1 s0 s1 k x v _ h0 h1).mono ?_
  rintro e w' ⟨⟨b, rfl⟩, hw⟩
  cases hw.symm
  by_cases hn0 : n0 ≤ 65536
  · have hn1 : ¬ n1 ≤ 65536 := fun h => hn ⟨hn0, h⟩
    clear hn
    go_wp2_with fail
    all_goals
      go_ret
      exact ⟨rfl, Below.refl _ _⟩
  · clear hn
    go_wp2_with fail
    all_goals
      go_ret
      exact ⟨rfl, Below.refl _ _⟩

set_option maxHeartbeats 2000000 in
theorem law5 (a0 a1 : Option Addr) (n0 n1 c0 c1 : Nat) (s0 s1 : List ByteArray) (k x : ByteArray) (v : Int) (w : World)
    (h0 : StrRow w a0 n0 s0) (h1 : StrRow w a1 n1 s1) (hk : k.size ≤ maxLen) (hx : x.size ≤ maxLen) :
    Calls Try.prog 5 #[.slice a0 n0 c0, .slice a1 n1 c1, .string k, .int .i64 v, .string x] w fun e w' => e = .returned (.bool true) ∧ Below w.heap.size w w' := by
  by_cases hn : n0 ≤ 65536 ∧ n1 ≤ 65536
  case neg => exact law5_long a0 a1 n0 n1 c0 c1 s0 s1 k x v w h0 h1 hn
  obtain ⟨hn0, hn1⟩ := hn
  have hne0 := fun w => run_neq_slice_nil_any (P := Try.prog) w 22 9 a0 n0 c0 0 0 Try.underlying22
  have hne1 := fun w => run_neq_slice_nil_any (P := Try.prog) w 22 9 a1 n1 c1 0 0 Try.underlying22
  have hmk0 := mk22 n0 (by omega)
  have hmk1 := mk22 n1 (by omega)
  go_enter Try.func5, Try.ntmps5
  go_wp2_with fail
  refine (bytes15 a0 a1 n0 n1 c0 c1 s0 s1 k x v _ h0 h1).mono ?_
  rintro e w' ⟨⟨b, rfl⟩, hw⟩
  cases hw.symm
  cases b
  · go_wp2_with fail
    go_ret
    exact ⟨rfl, Below.refl _ _⟩
  go_wp2_with fail
  refine (pairs7 a0 a1 n0 n1 c0 c1 s0 s1 k x _ h0 h1 hn0 hn1).mono ?_
  rintro e w' ⟨⟨b, rfl⟩, hw⟩
  cases hw.symm
  cases b
  rotate_left
  · go_wp2_with fail
    go_ret
    exact ⟨rfl, Below.refl _ _⟩
  by_cases hnn : n0 = n1
  case neg =>
    go_wp2_with fail
    go_ret
    exact ⟨rfl, Below.refl _ _⟩
  subst hnn
  cases a0
  all_goals cases a1
  · have R0 := h0
    have R1 := h1
    have HB := Below.refl w.heap.size w
    go_wp2_with fail
    refine (model8 _ _ n0 _ _ s0 s1 _ R0 R1 hn0).mono ?_
    rintro e wm ⟨rfl, hw⟩
    cases hw.symm
    have P1 := fun d0 d1 => pairs16 _ _ n0 d0 d1 s0 s1 k v _ R0 R1 hn0 hk
    cases hkey : isKey k
    all_goals
      have hkt := hkey
      unfold isKey keyL at hkt
      unfold lookInt at P1
      simp only [hkey, if_true, Bool.false_eq_true, if_false] at P1
      go_wp2_with fail
      refine (P1 _ _).mono ?_
      rintro e wA ⟨rfl, hbA⟩
      have R0A := R0.keep hbA
      have R1A := R1.keep hbA
      go_wp2_with fail
      refine (append10 _ n0 _ s0 k _ R0A hk hn0).mono ?_
      rintro e wB ⟨rfl, S0, hbB⟩
      have R1B := R1A.keep hbB
      go_wp2_with fail
      refine (append10 _ n0 _ s1 x _ R1B hx hn0).mono ?_
      rintro e wC ⟨rfl, S1, hbC⟩
      have P2 := pairs9 _ _ (n0 + 1) (n0 + 1) (n0 + 1) (s0 ++ [k]) (s1 ++ [x]) _ (S0.keep hbC) S1 (by omega)
      rw [zip_snoc s0 s1 (h0.len.trans h1.len.symm), look_snoc] at P2
      simp only [hkey, if_true, Bool.false_eq_true, if_false] at P2
      go_wp2_with fail
      refine P2.mono ?_
      rintro e wD ⟨rfl, hbD⟩
      go_wp2_with fail
      go_ret
      exact ⟨rfl, chain5 HB hbA hbB hbC hbD⟩
  · go_wp2_with (with_reducible refine at_copy ?_; refine wpList_copy_strs rfl _ _ rfl _ _ _ _ s1 rfl rfl (h1.keep ((Below.refl _ _).alloc (Nat.le_refl _) _)) _ (MapKept.heap_alloc w _).1 (size_madeCells _ _) w.heap.size w ((Below.refl _ _).alloc (Nat.le_refl _) _) (Nat.le_refl _) ?_; intro w1 R1 HB hb1)
    have R0 := h0.keep HB
    refine (model8 _ _ n0 _ _ s0 s1 _ R0 R1 hn0).mono ?_
    rintro e wm ⟨rfl, hw⟩
    cases hw.symm
    have P1 := fun d0 d1 => pairs16 _ _ n0 d0 d1 s0 s1 k v _ R0 R1 hn0 hk
    cases hkey : isKey k
    all_goals
      have hkt := hkey
      unfold isKey keyL at hkt
      unfold lookInt at P1
      simp only [hkey, if_true, Bool.false_eq_true, if_false] at P1
      go_wp2_with fail
      refine (P1 _ _).mono ?_
      rintro e wA ⟨rfl, hbA⟩
      have R0A := R0.keep hbA
      have R1A := R1.keep hbA
      go_wp2_with fail
      refine (append10 _ n0 _ s0 k _ R0A hk hn0).mono ?_
      rintro e wB ⟨rfl, S0, hbB⟩
      have R1B := R1A.keep hbB
      go_wp2_with fail
      refine (append10 _ n0 _ s1 x _ R1B hx hn0).mono ?_
      rintro e wC ⟨rfl, S1, hbC⟩
      have P2 := pairs9 _ _ (n0 + 1) (n0 + 1) (n0 + 1) (s0 ++ [k]) (s1 ++ [x]) _ (S0.keep hbC) S1 (by omega)
      rw [zip_snoc s0 s1 (h0.len.trans h1.len.symm), look_snoc] at P2
      simp only [hkey, if_true, Bool.false_eq_true, if_false] at P2
      go_wp2_with fail
      refine P2.mono ?_
      rintro e wD ⟨rfl, hbD⟩
      go_wp2_with fail
      go_ret
      exact ⟨rfl, chain5 HB hbA hbB hbC hbD⟩
  · go_wp2_with (with_reducible refine at_copy ?_; refine wpList_copy_strs rfl _ _ rfl _ _ _ _ s0 rfl rfl (h0.keep ((Below.refl _ _).alloc (Nat.le_refl _) _)) _ (MapKept.heap_alloc w _).1 (size_madeCells _ _) w.heap.size w ((Below.refl _ _).alloc (Nat.le_refl _) _) (Nat.le_refl _) ?_; intro w1 R0 HB hb1)
    have R1 := h1.keep HB
    refine (model8 _ _ n0 _ _ s0 s1 _ R0 R1 hn0).mono ?_
    rintro e wm ⟨rfl, hw⟩
    cases hw.symm
    have P1 := fun d0 d1 => pairs16 _ _ n0 d0 d1 s0 s1 k v _ R0 R1 hn0 hk
    cases hkey : isKey k
    all_goals
      have hkt := hkey
      unfold isKey keyL at hkt
      unfold lookInt at P1
      simp only [hkey, if_true, Bool.false_eq_true, if_false] at P1
      go_wp2_with fail
      refine (P1 _ _).mono ?_
      rintro e wA ⟨rfl, hbA⟩
      have R0A := R0.keep hbA
      have R1A := R1.keep hbA
      go_wp2_with fail
      refine (append10 _ n0 _ s0 k _ R0A hk hn0).mono ?_
      rintro e wB ⟨rfl, S0, hbB⟩
      have R1B := R1A.keep hbB
      go_wp2_with fail
      refine (append10 _ n0 _ s1 x _ R1B hx hn0).mono ?_
      rintro e wC ⟨rfl, S1, hbC⟩
      have P2 := pairs9 _ _ (n0 + 1) (n0 + 1) (n0 + 1) (s0 ++ [k]) (s1 ++ [x]) _ (S0.keep hbC) S1 (by omega)
      rw [zip_snoc s0 s1 (h0.len.trans h1.len.symm), look_snoc] at P2
      simp only [hkey, if_true, Bool.false_eq_true, if_false] at P2
      go_wp2_with fail
      refine P2.mono ?_
      rintro e wD ⟨rfl, hbD⟩
      go_wp2_with fail
      go_ret
      exact ⟨rfl, chain5 HB hbA hbB hbC hbD⟩
  · go_wp2_with (first | (with_reducible refine at_copy ?_; refine wpList_copy_strs rfl (.tmp 48) (.tmp 49) rfl _ _ _ _ s0 rfl rfl (h0.keep ((Below.refl _ _).alloc (Nat.le_refl _) _)) _ (MapKept.heap_alloc w _).1 (size_madeCells _ _) w.heap.size w ((Below.refl _ _).alloc (Nat.le_refl _) _) (Nat.le_refl _) ?_; intro w1 R0a HBa hb1) | (with_reducible refine at_copy ?_; refine wpList_copy_strs rfl (.tmp 57) (.tmp 58) rfl _ _ _ _ s1 rfl rfl ((h1.keep HBa).keep ((Below.refl _ _).alloc (Nat.le_refl _) _)) _ (MapKept.heap_alloc w1 _).1 (size_madeCells _ _) w.heap.size w (HBa.alloc HBa.size _) HBa.size ?_; intro w2 R1 HB hb2))
    have R0 := R0a.keep (((Below.refl _ _).alloc (Nat.le_refl _) _).trans hb2)
    refine (model8 _ _ n0 _ _ s0 s1 _ R0 R1 hn0).mono ?_
    rintro e wm ⟨rfl, hw⟩
    cases hw.symm
    have P1 := fun d0 d1 => pairs16 _ _ n0 d0 d1 s0 s1 k v _ R0 R1 hn0 hk
    cases hkey : isKey k
    all_goals
      have hkt := hkey
      unfold isKey keyL at hkt
      unfold lookInt at P1
      simp only [hkey, if_true, Bool.false_eq_true, if_false] at P1
      go_wp2_with fail
      refine (P1 _ _).mono ?_
      rintro e wA ⟨rfl, hbA⟩
      have R0A := R0.keep hbA
      have R1A := R1.keep hbA
      go_wp2_with fail
      refine (append10 _ n0 _ s0 k _ R0A hk hn0).mono ?_
      rintro e wB ⟨rfl, S0, hbB⟩
      have R1B := R1A.keep hbB
      go_wp2_with fail
      refine (append10 _ n0 _ s1 x _ R1B hx hn0).mono ?_
      rintro e wC ⟨rfl, S1, hbC⟩
      have P2 := pairs9 _ _ (n0 + 1) (n0 + 1) (n0 + 1) (s0 ++ [k]) (s1 ++ [x]) _ (S0.keep hbC) S1 (by omega)
      rw [zip_snoc s0 s1 (h0.len.trans h1.len.symm), look_snoc] at P2
      simp only [hkey, if_true, Bool.false_eq_true, if_false] at P2
      go_wp2_with fail
      refine P2.mono ?_
      rintro e wD ⟨rfl, hbD⟩
      go_wp2_with fail
      go_ret
      exact ⟨rfl, chain5 HB hbA hbB hbC hbD⟩

end Go.Proofs.Qxb6615993a
