/- FnJobFinishedEarliestTrueCompleteElseFailed: the walk. -/
import Derived.Test.Qxb6615952aFin
import Derived.Test.Qxb6615952aJf
import Derived.Deep.DeepCutAuto
namespace Go.Proofs.Qxb6615952a
open Go.RowKit

theorem ans_miss {b n : Nat} {s0 s1 s2 : List ByteArray} {w : World} (h : JobIs w b n s0 s1 s2) (hn : n ≤ 65536) (typ : ByteArray) (hno : ∀ i, i < n → ((s0.getD i ByteArray.empty).toList == typ.toList) = false) :
    Answers b typ ⟨#[]⟩ ⟨#[]⟩ ⟨#[]⟩ ⟨#[]⟩ ⟨#[]⟩ ⟨#[]⟩ ⟨#[]⟩ w := by
  intro W hb
  refine (cond19_miss b n s0 s1 s2 typ W (h.below hb) hn hno).mono ?_
  rintro e w' ⟨rfl, hb'⟩
  exact ⟨⟨false, rfl⟩, hb'⟩

theorem ans_hit {b n : Nat} {s0 s1 s2 : List ByteArray} {w : World} (h : JobIs w b n s0 s1 s2) (hn : n ≤ 65536) (typ : ByteArray) (k : Nat) (hk : k < n) (hno : ∀ i, i < k → ((s0.getD i ByteArray.empty).toList == typ.toList) = false) (hyes : ((s0.getD k ByteArray.empty).toList == typ.toList) = true) :
    Answers b typ typ (s1.getD k ByteArray.empty) ⟨#[]⟩ ⟨#[]⟩ ⟨#[]⟩ (s2.getD k ByteArray.empty) ⟨#[]⟩ w := by
  intro W hb
  refine (cond19_hit b n s0 s1 s2 typ W (h.below hb) hn k hk hno hyes).mono ?_
  rintro e w' ⟨rfl, hb'⟩
  exact ⟨⟨true, rfl⟩, hb'⟩

/-- What Condition answers, by the earliest index. -/
theorem ans_ear {b n : Nat} {s0 s1 s2 : List ByteArray} {w : World} (h : JobIs w b n s0 s1 s2) (hn : n ≤ 65536) (hl : s0.length = n) (typ : ByteArray) (ty : List UInt8) (hty : typ.toList = ty) :
    (ear s0 ty 0 = -1 ∧ Answers b typ ⟨#[]⟩ ⟨#[]⟩ ⟨#[]⟩ ⟨#[]⟩ ⟨#[]⟩ ⟨#[]⟩ ⟨#[]⟩ w) ∨
    ∃ k : Nat, k < n ∧ ear s0 ty 0 = k ∧ ((s0.getD k ByteArray.empty).toList == ty) = true ∧ Answers b typ typ (s1.getD k ByteArray.empty) ⟨#[]⟩ ⟨#[]⟩ ⟨#[]⟩ (s2.getD k ByteArray.empty) ⟨#[]⟩ w := by
  subst hty
  rcases ear_cases s0 typ.toList 0 (Nat.zero_le _) with ⟨e, hno⟩ | ⟨k, _, hkn, e, hyes, hno⟩
  · exact Or.inl ⟨e, ans_miss h hn typ (fun i hi => hno i (Nat.zero_le _) (by omega))⟩
  · exact Or.inr ⟨k, by omega, e, hyes, ans_hit h hn typ k (by omega) (fun i hi => hno i (Nat.zero_le _) hi) hyes⟩

theorem kC_list : kComplete.toList = tyC := by rw [ByteArray.toList_eq]; rfl
theorem kF_list : kFailed.toList = tyF := by rw [ByteArray.toList_eq]; rfl
theorem none_tru : ((⟨#[]⟩ : ByteArray).toList == [84, 114, 117, 101]) = false := by rw [ByteArray.toList_eq]; rfl

theorem beq_swap {a b : List UInt8} (h : (a == b) = true) : (b == a) = true := by
  have e := eq_of_beq h
  rw [e]
  exact beq_self_eq_true b

/-- JobFinished's answer beside jfEarliestTrue's. -/
theorem finished {b n : Nat} {s0 s1 s2 : List ByteArray} {w : World} (h : JobIs w b n s0 s1 s2) (hn : n ≤ 65536) (hl : s0.length = n) :
    (pick s0 s1 = -1 ∧ Calls Try.prog 9 #[.map (some b)] w fun e w' => e = .returned (.tuple #[noCond, .bool false]) ∧ Below w.heap.size w w') ∨
    ∃ (k : Nat) (typ : ByteArray), k < n ∧ pick s0 s1 = k ∧ (typ.toList == (s0.getD k ByteArray.empty).toList) = true ∧ ((s1.getD k ByteArray.empty).toList == tru) = true ∧
      Calls Try.prog 9 #[.map (some b)] w fun e w' => e = .returned (.tuple #[condV typ (s1.getD k ByteArray.empty) (s2.getD k ByteArray.empty), .bool true]) ∧ Below w.heap.size w w' := by
  have hp : pick s0 s1 = if says s1 (ear s0 tyC 0) then ear s0 tyC 0 else if says s1 (ear s0 tyF 0) then ear s0 tyF 0 else -1 := rfl
  -- Failed, once Complete does not say True
  have second : ∀ (y0 y1 y2 y3 y4 y5 y6 : ByteArray), Answers b kComplete y0 y1 y2 y3 y4 y5 y6 w → (y1.toList == [84, 114, 117, 101]) = false → (pick s0 s1 = if says s1 (ear s0 tyF 0) then ear s0 tyF 0 else -1) →
      (pick s0 s1 = -1 ∧ Calls Try.prog 9 #[.map (some b)] w fun e w' => e = .returned (.tuple #[noCond, .bool false]) ∧ Below w.heap.size w w') ∨
      ∃ (k : Nat) (typ : ByteArray), k < n ∧ pick s0 s1 = k ∧ (typ.toList == (s0.getD k ByteArray.empty).toList) = true ∧ ((s1.getD k ByteArray.empty).toList == tru) = true ∧
        Calls Try.prog 9 #[.map (some b)] w fun e w' => e = .returned (.tuple #[condV typ (s1.getD k ByteArray.empty) (s2.getD k ByteArray.empty), .bool true]) ∧ Below w.heap.size w w' := by
    intro y0 y1 y2 y3 y4 y5 y6 hA hf hq
    rcases ans_ear h hn hl kFailed tyF kF_list with ⟨e, hB⟩ | ⟨k, hk, e, hyes, hB⟩
    · rw [e, says_neg] at hq
      exact Or.inl ⟨by rw [hq]; rfl, fin9_none b _ _ _ _ _ _ _ _ _ _ _ _ _ _ w hA hf hB none_tru⟩
    · rw [e, says_nat] at hq
      cases ht : ((s1.getD k ByteArray.empty).toList == tru)
      · rw [ht] at hq
        exact Or.inl ⟨by rw [hq]; rfl, fin9_none b _ _ _ _ _ _ _ _ _ _ _ _ _ _ w hA hf hB ht⟩
      · rw [ht] at hq
        refine Or.inr ⟨k, kFailed, hk, by rw [hq]; rfl, ?_, ht, fin9_second b _ _ _ _ _ _ _ _ _ _ _ _ _ _ w hA hf hB ht⟩
        rw [kF_list]
        exact beq_swap hyes
  rcases ans_ear h hn hl kComplete tyC kC_list with ⟨e, hA⟩ | ⟨k, hk, e, hyes, hA⟩
  · rw [e, says_neg] at hp
    exact second _ _ _ _ _ _ _ hA none_tru hp
  · rw [e, says_nat] at hp
    cases ht : ((s1.getD k ByteArray.empty).toList == tru)
    · rw [ht] at hp
      exact second _ _ _ _ _ _ _ hA ht hp
    · rw [ht] at hp
      refine Or.inr ⟨k, kComplete, hk, by rw [hp]; rfl, ?_, ht, fin9_first b _ _ _ _ _ _ _ w hA ht⟩
      rw [kC_list]
      exact beq_swap hyes

theorem below_two {w w1 w2 : World} (h1 : Below w.heap.size w w1) (h2 : Below w1.heap.size w1 w2) : Below w.heap.size w w2 := h1.trans (h2.mono h1.size)

theorem keep_two {W : World} {p q : Addr} {x y : Value} (o : Obj) (h : W.cell? p = some x ∧ W.cell? q = some y) : (W.alloc o).drew.cell? p = some x ∧ (W.alloc o).drew.cell? q = some y :=
  ⟨(World.cell?_alloc_lt _ _ _ (block_lt_of_cell h.1)).trans h.1, (World.cell?_alloc_lt _ _ _ (block_lt_of_cell h.2)).trans h.2⟩

set_option maxRecDepth 100000 in
set_option maxHeartbeats 2000000 in
theorem law3 (a0 a1 a2 : Option Addr) (n0 n1 n2 c0 c1 c2 : Nat) (s0 s1 s2 : List ByteArray) (w : World)
    (h0 : StrRow w a0 n0 s0) (h1 : StrRow w a1 n1 s1) (h2 : StrRow w a2 n2 s2) (hn0 : n0 ≤ 65536) (hn1 : n1 ≤ 65536) (hn2 : n2 ≤ 65536) :
    Calls Try.prog 3 #[.slice a0 n0 c0, .slice a1 n1 c1, .slice a2 n2 c2] w fun e w' => e = .returned (.bool true) ∧ Below w.heap.size w w' := by
  have hne0 := fun w => run_neq_slice_nil_any (P := Try.prog) w 22 9 a0 n0 c0 0 0 Try.underlying22
  have hne1 := fun w => run_neq_slice_nil_any (P := Try.prog) w 22 9 a1 n1 c1 0 0 Try.underlying22
  have hne2 := fun w => run_neq_slice_nil_any (P := Try.prog) w 22 9 a2 n2 c2 0 0 Try.underlying22
  have hmk0 := mk22 n0 (by omega)
  have hmk1 := mk22 n1 (by omega)
  have hmk2 := mk22 n2 (by omega)
  go_enter Try.func3, Try.ntmps3
  go_wp2_with fail
  refine (bytes6 a0 a1 a2 n0 n1 n2 c0 c1 c2 s0 s1 s2 _ h0 h1 h2).mono ?_
  rintro e w' ⟨⟨b, rfl⟩, hw⟩
  cases hw.symm
  cases b
  · go_wp2_with fail
    go_ret
    exact ⟨rfl, Below.refl _ _⟩
  go_upto_if 34 with (fail)
  go_cut [0] (fun s w' => ∃ A c, s = .slice A n0 c ∧ StrRow w' A n0 s0 ∧ Below w.heap.size w w')
  case first =>
    cases a0
    · go_wp2_with fail
      go_meet
      case rel => exact ⟨_, _, rfl, h0, Below.refl _ _⟩
    · go_wp2_with (with_reducible refine at_copy ?_; refine wpList_copy_strs rfl _ _ rfl _ _ _ _ s0 rfl rfl (h0.keep ((Below.refl _ _).alloc (Nat.le_refl _) _)) _ (MapKept.heap_alloc w _).1 (size_madeCells _ _) w.heap.size w ((Below.refl _ _).alloc (Nat.le_refl _) _) (Nat.le_refl _) ?_; intro w1 R0 HB hb1)
      go_meet
      case rel => exact ⟨_, _, rfl, R0, HB⟩
  case rest =>
    obtain ⟨A0, d0, rfl, R0, B0⟩ := hcut
    have R1 := h1.keep B0
    clear hne0 hmk0
    go_upto_if 43 with (fail)
    go_cut [1] (fun s w' => ∃ A c, s = .slice A n1 c ∧ StrRow w' A n1 s1 ∧ StrRow w' A0 n0 s0 ∧ Below w.heap.size w w')
    case first =>
      cases a1
      · go_wp2_with fail
        go_meet
        case rel => exact ⟨_, _, rfl, R1, R0, B0⟩
      · go_wp2_with (with_reducible refine at_copy ?_; refine wpList_copy_strs rfl _ _ rfl _ _ _ _ s1 rfl rfl (R1.keep ((Below.refl _ _).alloc (Nat.le_refl _) _)) _ (MapKept.heap_alloc wc _).1 (size_madeCells _ _) w.heap.size w (B0.alloc B0.size _) B0.size ?_; intro w1 R1' HB hb1)
        go_meet
        case rel => exact ⟨_, _, rfl, R1', R0.keep (((Below.refl _ _).alloc (Nat.le_refl _) _).trans hb1), HB⟩
    case rest =>
      obtain ⟨A1, d1, rfl, R1, R0, B1⟩ := hcut
      have R2 := h2.keep B1
      clear hne1 hmk1
      go_upto_if 52 with (fail)
      go_cut [2] (fun s w' => ∃ A c, s = .slice A n2 c ∧ StrRow w' A n2 s2 ∧ StrRow w' A1 n1 s1 ∧ StrRow w' A0 n0 s0 ∧ Below w.heap.size w w')
      case first =>
        cases a2
        · go_wp2_with fail
          go_meet
          case rel => exact ⟨_, _, rfl, R2, R1, R0, B1⟩
        · go_wp2_with (with_reducible refine at_copy ?_; refine wpList_copy_strs rfl _ _ rfl _ _ _ _ s2 rfl rfl (R2.keep ((Below.refl _ _).alloc (Nat.le_refl _) _)) _ (MapKept.heap_alloc wc _).1 (size_madeCells _ _) w.heap.size w (B1.alloc B1.size _) B1.size ?_; intro w1 R2' HB hb1)
          go_meet
          case rel => exact ⟨_, _, rfl, R2', R1.keep (((Below.refl _ _).alloc (Nat.le_refl _) _).trans hb1), R0.keep (((Below.refl _ _).alloc (Nat.le_refl _) _).trans hb1), HB⟩
      case rest =>
        obtain ⟨A2, d2, rfl, R2, R1, R0, B2⟩ := hcut
        clear hne2 hmk2
        go_wp2_with fail
        refine (strBytes7 A0 n0 d0 s0 _ _ R0 hn0).mono ?_
        rintro e w' ⟨⟨q, rfl⟩, hw⟩
        cases hw.symm
        by_cases hq : q ≤ 1048576
        case neg =>
          go_wp2_with fail
          go_ret
          exact ⟨rfl, B2⟩
        go_wp2_with fail
        refine (strBytes7 A1 n1 d1 s1 _ _ R1 hn1).mono ?_
        rintro e w' ⟨⟨q2, rfl⟩, hw⟩
        cases hw.symm
        by_cases hq2 : q2 ≤ 1048576
        case neg =>
          go_wp2_with fail
          go_ret
          exact ⟨rfl, B2⟩
        go_wp2_with fail
        refine (strBytes7 A2 n2 d2 s2 _ _ R2 hn2).mono ?_
        rintro e w' ⟨⟨q3, rfl⟩, hw⟩
        cases hw.symm
        by_cases hq3 : q3 ≤ 1048576
        case neg =>
          go_wp2_with fail
          go_ret
          exact ⟨rfl, B2⟩
        by_cases hn10 : n1 = n0
        case neg =>
          go_wp2_with fail
          go_ret
          exact ⟨rfl, B2⟩
        subst hn10
        by_cases hn20 : n2 = n1
        case neg =>
          go_wp2_with fail
          go_ret
          exact ⟨rfl, B2⟩
        subst hn20
        go_wp2_with fail
        refine (earliest8 A0 A1 n2 d0 d1 s0 s1 _ R0 R1 hn0).mono ?_
        rintro e w' ⟨rfl, hw⟩
        cases hw.symm
        go_wp2_with fail
        refine (job10 A0 A1 A2 n2 d0 d1 d2 s0 s1 s2 _ R0 R1 R2 hn0).mono ?_
        rintro e wj ⟨b, rfl, hjob, Bj⟩
        rcases finished hjob hn0 R0.len with ⟨hp, hfin⟩ | ⟨k, typ, hkn, hp, htyp, htru, hfin⟩
        · go_wp2_with fail
          refine hfin.mono ?_
          rintro e wf ⟨rfl, Bf⟩
          unfold noCond
          go_wp2_with fail
          go_ret
          have BB := below_two (below_two B2 Bj) Bf
          exact ⟨rfl, BB.alloc BB.size _⟩
        · obtain ⟨tk, htk⟩ : ∃ t, t = s0.getD k ByteArray.empty := ⟨_, rfl⟩
          obtain ⟨sk, hsk⟩ : ∃ t, t = s1.getD k ByteArray.empty := ⟨_, rfl⟩
          obtain ⟨rk, hrk⟩ : ∃ t, t = s2.getD k ByteArray.empty := ⟨_, rfl⟩
          rw [← hsk, ← hrk] at hfin
          rw [← hsk] at htru
          rw [← htk] at htyp
          have hi0 := ix (c := d0) (R0.addr k hkn) hkn
          have hi2 := ix (c := d2) (R2.addr k hkn) hkn
          go_wp2_with fail
          refine hfin.mono ?_
          rintro e wf ⟨rfl, Bf⟩
          have hc0 := (((R0.keep Bj).keep Bf).keep ((Below.refl _ _).alloc (Nat.le_refl _) (.cells #[.string typ, .string sk, .string ⟨#[]⟩, .string ⟨#[]⟩, .string ⟨#[]⟩, .string rk, .string ⟨#[]⟩] 27))).cells k hkn
          have hc2 := (((R2.keep Bj).keep Bf).keep ((Below.refl _ _).alloc (Nat.le_refl _) (.cells #[.string typ, .string sk, .string ⟨#[]⟩, .string ⟨#[]⟩, .string ⟨#[]⟩, .string rk, .string ⟨#[]⟩] 27))).cells k hkn
          rw [← htk] at hc0
          rw [← hrk] at hc2
          have BB := below_two (below_two B2 Bj) Bf
          unfold tru at htru
          clear htk hsk hrk hfin hjob R0 R1 R2 Bj Bf B2 h0 h1 h2
          unfold condV
          go_wp2_with fail
          go_region_held3 (fun W => W.cell? (pt A0 k) = some (.string tk) ∧ W.cell? (pt A2 k) = some (.string rk)) (first | exact ⟨hc0, hc2⟩ | exact keep_two _ ⟨hc0, hc2⟩ | go_keep) (fail)
          go_wp2_with fail
          go_ret
          have BC := BB.alloc BB.size (.cells #[.string typ, .string sk, .string ⟨#[]⟩, .string ⟨#[]⟩, .string ⟨#[]⟩, .string rk, .string ⟨#[]⟩] 27)
          exact ⟨rfl, (BC.alloc BC.size _).drew⟩

end Go.Proofs.Qxb6615952a
