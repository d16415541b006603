/- 'Rows.FnJobFinishedEarliestTrueCompleteElseFailedSaid': the row over the walk 'law3'. -/
import Derived.Test.Qxb6615952aLaw2
import Derived.ProofKit
import Derived.OpenShut
import Derived.ShutString
import Derived.ChangeOld
import Derived.Below
namespace Go.Proofs.Qxb6615952a
open Go.ChangeShapes Go.WideShapes Go.ChangeAt Go.RowKit

theorem own2 : ownKnob Try.prog.godebug = none := by kernel_rfl
theorem laidOut2 : laidOutB Try.prog = true := by kernel_rfl

set_option maxRecDepth 100000 in
set_option maxHeartbeats 1000000 in
theorem law3_long (a0 a1 a2 : Option Addr) (n0 n1 n2 c0 c1 c2 : Nat) (s0 s1 s2 : List ByteArray) (w : World)
    (h0 : StrRow w a0 n0 s0) (h1 : StrRow w a1 n1 s1) (h2 : StrRow w a2 n2 s2) (hn : ¬ (n0 ≤ 65536 ∧ n1 ≤ 65536 ∧ n2 ≤ 65536)) :
    Calls Try.prog 3 #[.slice a0 n0 c0, .slice a1 n1 c1, .slice a2 n2 c2] w fun e w' => e = .returned (.bool true) ∧ Below w.heap.size w w' := by
  go_enter Try.func3, Try.ntmps3
  go_wp2_with fail
  refine (bytes6 a0 a1 a2 n0 n1 n2 c0 c1 c2 s0 s1 s2 _ h0 h1 h2).mono ?_
  rintro e w' ⟨⟨b, rfl⟩, hw⟩
  cases hw.symm
  by_cases hn0 : n0 ≤ 65536
  · by_cases hn1 : n1 ≤ 65536
    · have hn2 : ¬ n2 ≤ 65536 := fun h => hn ⟨hn0, hn1, h⟩
      clear hn
      go_wp2_with fail
      all_goals
        go_ret
        exact ⟨rfl, Below.refl _ _⟩
    · clear hn
      go_wp2_with fail
      all_goals
        go_ret
        exact ⟨rfl, Below.refl _ _⟩
  · clear hn
    go_wp2_with fail
    all_goals
      go_ret
      exact ⟨rfl, Below.refl _ _⟩

theorem law3_all (a0 a1 a2 : Option Addr) (n0 n1 n2 c0 c1 c2 : Nat) (s0 s1 s2 : List ByteArray) (w : World)
    (h0 : StrRow w a0 n0 s0) (h1 : StrRow w a1 n1 s1) (h2 : StrRow w a2 n2 s2) :
    Calls Try.prog 3 #[.slice a0 n0 c0, .slice a1 n1 c1, .slice a2 n2 c2] w fun e w' => e = .returned (.bool true) ∧ Below w.heap.size w w' := by
  by_cases hn : n0 ≤ 65536 ∧ n1 ≤ 65536 ∧ n2 ≤ 65536
  · exact law3 a0 a1 a2 n0 n1 n2 c0 c1 c2 s0 s1 s2 w h0 h1 h2 hn.1 hn.2.1 hn.2.2
  · exact law3_long a0 a1 a2 n0 n1 n2 c0 c1 c2 s0 s1 s2 w h0 h1 h2 hn

/-- A slice of strings that came in, opened. -/
theorem open_row {H : Type} {enc : TypeId × Value → H} {W : World} {a : Option Addr} {len cap : Nat} {d : DataW H} {p : List MemPlace}
    (h : DataW.Trod enc Try.prog W 0 (fun _ => true) true 22 (.slice a len cap) d p) : ∃ ss, StrRow W a len ss := by
  obtain ⟨fuel, hf⟩ := h
  rcases open_strings Try.underlying22 Try.underlying9 Try.cells9 hf with ⟨hcs, _⟩ | ⟨x, l, c, ss, hcs, _, hl, hm, hz, _, hcell, hws⟩
  · simp [Value.cells] at hcs
    obtain ⟨rfl, rfl, rfl⟩ := hcs
    exact ⟨[], rfl, fun i hi => absurd hi (by omega), fun i hi => absurd hi (by omega), fun s hs => by cases hs⟩
  · simp [Value.cells] at hcs
    obtain ⟨rfl, rfl, rfl⟩ := hcs
    simp only [if_true] at hz
    refine ⟨ss.take len, by simp; omega, fun _ _ => by simp, fun i hi => ?_, fun s hs => hws s (List.mem_of_mem_take hs)⟩
    have e := hcell i (by omega)
    rw [show (ss.take len).getD i ByteArray.empty = ss.getD i ByteArray.empty by simp [hi]]
    exact e

set_option maxRecDepth 100000 in
theorem lifted2 (os : Os) (started : os.Started) (H : Type) (enc : TypeId × Value → H) :
    ReturnsInHanded {} Try.checked os 3 .any (Rows.fnJobFinishedEarliestTrueCompleteElseFailedSpec.pre6 enc Try.prog Try.f3 Rows.fnJobFinishedEarliestTrueCompleteElseFailedRow.domain false) (Rows.fnJobFinishedEarliestTrueCompleteElseFailedSpec.post enc Try.prog Try.f3 false true false false) := by
  refine returnsInHanded_of_change (C := Try.checked) own2 started (by kernel_rfl) Try.func3
    (ChangeSpec.witness6 (enc := enc) (C := Try.checked) false ⟨#[], #[.slice none 0 0, .slice none 0 0, .slice none 0 0], []⟩ 8 (by kernel_rfl) (by kernel_rfl) (by kernel_rfl) (by kernel_rfl)) ?_
  intro W base args ds gs before hval0 hW hcnd _
  have hval : ∀ (j : Nat) t v, Try.f3.params[j]? = some t → args[j]? = some v → Value.okWide Try.prog W .any base t v := hval0
  have hW' := hW
  obtain ⟨p, q, hA0, hV, rfl, hfz, hnd⟩ := hW
  have hA : DataW.TrodAll enc Try.prog W 0 (fun _ => true) true Try.f3.params.toList args.toList ds p := hA0
  rw [Try.params3] at hA hval
  obtain ⟨v0, vs0, d0, ds0, p0, q0, hargs, rfl, rfl, h0, r0⟩ := trodAll_cons hA
  obtain ⟨v1, vs1, d1, ds1, p1, q1, rfl, rfl, rfl, h1, r1⟩ := trodAll_cons r0
  obtain ⟨v2, vs2, d2, ds2, p2, q2, rfl, rfl, rfl, h2, r2⟩ := trodAll_cons r1
  obtain ⟨rfl, rfl, rfl⟩ := trodAll_nil r2
  obtain rfl : args = #[v0, v1, v2] := by cases args; simp_all
  obtain ⟨rfl, rfl⟩ := trodVars_none hV
  obtain ⟨a0, len0, cap0, rfl⟩ := okWide_slice Try.underlying22 (hval 0 22 v0 rfl rfl)
  have lt0 : ∀ x ∈ p0, x.block < W.heap.size := by obtain ⟨m, hm⟩ := h0; exact DataW.trod_lt m _ _ _ hm
  obtain ⟨z0, w0⟩ := open_row h0
  obtain ⟨a1, len1, cap1, rfl⟩ := okWide_slice Try.underlying22 (hval 1 22 v1 rfl rfl)
  have lt1 : ∀ x ∈ p1, x.block < W.heap.size := by obtain ⟨m, hm⟩ := h1; exact DataW.trod_lt m _ _ _ hm
  obtain ⟨z1, w1⟩ := open_row h1
  obtain ⟨a2, len2, cap2, rfl⟩ := okWide_slice Try.underlying22 (hval 2 22 v2 rfl rfl)
  have lt2 : ∀ x ∈ p2, x.block < W.heap.size := by obtain ⟨m, hm⟩ := h2; exact DataW.trod_lt m _ _ _ hm
  obtain ⟨z2, w2⟩ := open_row h2
  clear hA0 hval0
  refine (law3_all a0 a1 a2 len0 len1 len2 cap0 cap1 cap2 z0 z1 z2 W w0 w1 w2).mono fun e W' ⟨he, bel⟩ => ?_
  subst he
  exact ⟨_, rfl, _, _, _, [], _, [], hW', trodAll_mk1 (shut_bool Try.underlying4 _), (trodAll_cons_mk (Below.trod laidOut2 (by kernel_rfl) (of_decide_eq_true (by kernel_rfl)) h0 bel lt0) (trodAll_cons_mk (Below.trod laidOut2 (by kernel_rfl) (of_decide_eq_true (by kernel_rfl)) h1 bel lt1) (trodAll_cons_mk (Below.trod laidOut2 (by kernel_rfl) (of_decide_eq_true (by kernel_rfl)) h2 bel lt2) trodAll_mk0))), rfl, bel.frame _, fun h => by cases h⟩

theorem over2 : Rows.fnJobFinishedEarliestTrueCompleteElseFailedRow.holds Try.pinned (OpenSpec.ofChange Rows.fnJobFinishedEarliestTrueCompleteElseFailedSpec) :=
  OpenClaim.holds_of_wide 3 Try.f3 rfl rfl rfl rfl rfl rfl rfl ⟨rfl, rfl, rfl, rfl, rfl⟩ rfl rfl rfl rfl rfl (by kernel_rfl) Try.func3 (by kernel_rfl)
    (of_decide_eq_true (by kernel_rfl)) (by unfold Func.isWrapper; first | (rw [if_pos (by decide +kernel)]; kernel_rfl) | (rw [if_neg (by decide +kernel)]; exact ⟨rfl, rfl⟩))
    (fun os started H enc _ => lifted2 os started H enc)

/-- THE STATEMENT. -/
theorem proved2 : Rows.FnJobFinishedEarliestTrueCompleteElseFailedSaid := over2

end Go.Proofs.Qxb6615952a
