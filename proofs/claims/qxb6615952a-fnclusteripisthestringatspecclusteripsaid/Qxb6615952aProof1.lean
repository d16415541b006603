/- 'Rows.FnClusterIPIsTheStringAtSpecClusterIPSaid': the law's walk and the row. -/
import Derived.Test.Qxb6615952aSvc
import Derived.ProofKit
import Derived.OpenShut
import Derived.ShutString
import Derived.ChangeOld
import Derived.Below
namespace Go.Proofs.Qxb6615952a
open Go.ChangeShapes Go.WideShapes Go.ChangeAt Go.RowKit
open Go.ChangeMaps (open_string shut_string)

/-- The call came back with one bool. -/
def AnyBool (e : Ending) : Prop := ∃ b : Bool, e = .returned (.bool b)
theorem anyBool (b : Bool) : AnyBool (.returned (.bool b)) := ⟨b, rfl⟩

set_option maxHeartbeats 400000 in
theorem bytes13 (a0 a1 : ByteArray) (a2 a3 : Bool) (w : World) :
    Calls Try.prog 13 #[.string a0, .string a1, .bool a2, .bool a3] w fun e w' => AnyBool e ∧ w' = w := by
  go_enter Try.func13, Try.ntmps13
  go_wp2
  all_goals
    go_ret
    exact ⟨anyBool _, rfl⟩

theorem below2 {w w1 w2 : World} (h1 : Below w.heap.size w w1) (h2 : Below w1.heap.size w1 w2) : Below w.heap.size w w2 := h1.trans (h2.mono h1.size)

set_option maxHeartbeats 400000 in
theorem cip5_long (a0 a1 : ByteArray) (a2 a3 : Bool) (w : World) (hn : ¬ (a0.size ≤ 65536 ∧ a1.size ≤ 65536)) :
    Calls Try.prog 5 #[.string a0, .string a1, .bool a2, .bool a3] w fun e w' => e = .returned (.bool true) ∧ Below w.heap.size w w' := by
  go_enter Try.func5, Try.ntmps5
  go_wp2_with fail
  refine (bytes13 a0 a1 a2 a3 _).mono ?_
  rintro e w' ⟨⟨b, rfl⟩, hw⟩
  cases hw.symm
  by_cases hn0 : a0.size ≤ 65536
  · have hn1 : ¬ a1.size ≤ 65536 := fun h => hn ⟨hn0, h⟩
    clear hn
    go_wp2_with fail
    all_goals
      go_ret
      exact ⟨rfl, Below.refl _ _⟩
  · clear hn
    go_wp2_with fail
    all_goals
      go_ret
      exact ⟨rfl, Below.refl _ _⟩

set_option maxHeartbeats 1000000 in
theorem cip5 (a0 a1 : ByteArray) (a2 a3 : Bool) (w : World) :
    Calls Try.prog 5 #[.string a0, .string a1, .bool a2, .bool a3] w fun e w' => e = .returned (.bool true) ∧ Below w.heap.size w w' := by
  by_cases hn : a0.size ≤ 65536 ∧ a1.size ≤ 65536
  case neg => exact cip5_long a0 a1 a2 a3 w hn
  obtain ⟨hn0, hn1⟩ := hn
  go_enter Try.func5, Try.ntmps5
  go_wp2_with fail
  refine (bytes13 a0 a1 a2 a3 _).mono ?_
  rintro e w' ⟨⟨b, rfl⟩, hw⟩
  cases hw.symm
  cases b
  · go_wp2_with fail
    go_ret
    exact ⟨rfl, Below.refl _ _⟩
  cases a2
  all_goals cases a3
  · go_wp2_with fail
    refine (without17 a0 a1 _).mono ?_
    rintro e w1 ⟨m, rfl, hp, hb⟩
    go_wp2_with fail
    refine (cip18 _ _ _ hp (Or.inl rfl)).mono ?_
    rintro e w2 ⟨rfl, hb2⟩
    unfold textOf
    go_wp2_with fail
    go_ret
    exact ⟨rfl, below2 hb hb2⟩
  · go_wp2_with fail
    refine (text16 a0 a1 _).mono ?_
    rintro e w1 ⟨m, rfl, hp, hb⟩
    go_wp2_with fail
    refine (cip18 _ _ _ hp (Or.inl rfl)).mono ?_
    rintro e w2 ⟨rfl, hb2⟩
    unfold textOf
    go_wp2_with fail
    go_ret
    exact ⟨rfl, below2 hb hb2⟩
  · go_wp2_with fail
    refine (number15 a0 a1 _).mono ?_
    rintro e w1 ⟨m, rfl, hp, hb⟩
    go_wp2_with fail
    refine (cip18 _ _ _ hp (Or.inr (Or.inr ⟨_, rfl⟩))).mono ?_
    rintro e w2 ⟨rfl, hb2⟩
    unfold textOf
    go_wp2_with fail
    go_ret
    exact ⟨rfl, below2 hb hb2⟩
  · go_wp2_with fail
    refine (with14 a0 a1 _).mono ?_
    rintro e w1 ⟨m, rfl, hp, hb⟩
    go_wp2_with fail
    refine (cip18 _ _ _ hp (Or.inr (Or.inl ⟨_, rfl⟩))).mono ?_
    rintro e w2 ⟨rfl, hb2⟩
    unfold textOf
    go_wp2_with fail
    go_ret
    exact ⟨rfl, below2 hb hb2⟩

theorem own : ownKnob Try.prog.godebug = none := by kernel_rfl

set_option maxRecDepth 100000 in
theorem lifted1 (os : Os) (started : os.Started) (H : Type) (enc : TypeId × Value → H) :
    ReturnsInHanded {} Try.checked os 5 .any (Rows.fnClusterIPIsTheStringAtSpecClusterIPSpec.pre6 enc Try.prog Try.f5 Rows.fnClusterIPIsTheStringAtSpecClusterIPRow.domain false) (Rows.fnClusterIPIsTheStringAtSpecClusterIPSpec.post enc Try.prog Try.f5 false true false false) := by
  refine returnsInHanded_of_change (C := Try.checked) own started (by kernel_rfl) Try.func5
    (ChangeSpec.witness6 (enc := enc) (C := Try.checked) false ⟨#[], #[.string ByteArray.empty, .string ByteArray.empty, .bool false, .bool false], []⟩ 8 (by kernel_rfl) (by kernel_rfl) (by kernel_rfl) (by kernel_rfl)) ?_
  intro W base args ds gs before hval0 hW hcnd _
  have hval : ∀ (j : Nat) t v, Try.f5.params[j]? = some t → args[j]? = some v → Value.okWide Try.prog W .any base t v := hval0
  have hW' := hW
  obtain ⟨p, q, hA0, hV, rfl, hfz, hnd⟩ := hW
  have hA : DataW.TrodAll enc Try.prog W 0 (fun _ => true) true Try.f5.params.toList args.toList ds p := hA0
  rw [Try.params5] at hA hval
  obtain ⟨v0, vs0, d0, ds0, p0, q0, hargs, rfl, rfl, h0, r0⟩ := trodAll_cons hA
  obtain ⟨v1, vs1, d1, ds1, p1, q1, rfl, rfl, rfl, h1, r1⟩ := trodAll_cons r0
  obtain ⟨v2, vs2, d2, ds2, p2, q2, rfl, rfl, rfl, h2, r2⟩ := trodAll_cons r1
  obtain ⟨v3, vs3, d3, ds3, p3, q3, rfl, rfl, rfl, h3, r3⟩ := trodAll_cons r2
  obtain ⟨rfl, rfl, rfl⟩ := trodAll_nil r3
  obtain rfl : args = #[v0, v1, v2, v3] := by cases args; simp_all
  obtain ⟨rfl, rfl⟩ := trodVars_none hV
  obtain ⟨a0, rfl, rfl, rfl, w0⟩ := open_string Try.underlying9 (hval 0 9 v0 rfl rfl) h0
  obtain ⟨a1, rfl, rfl, rfl, w1⟩ := open_string Try.underlying9 (hval 1 9 v1 rfl rfl) h1
  obtain ⟨a2, rfl, rfl, rfl⟩ := open_bool Try.underlying4 (hval 2 4 v2 rfl rfl) h2
  obtain ⟨a3, rfl, rfl, rfl⟩ := open_bool Try.underlying4 (hval 3 4 v3 rfl rfl) h3
  clear hA0 hval0
  refine (cip5 a0 a1 a2 a3 W).mono fun e W' ⟨he, bel⟩ => ?_
  subst he
  exact ⟨_, rfl, _, _, _, [], _, [], hW', trodAll_mk1 (shut_bool Try.underlying4 _), (trodAll_cons_mk (shut_string Try.underlying9 w0) (trodAll_cons_mk (shut_string Try.underlying9 w1) (trodAll_cons_mk (shut_bool Try.underlying4 _) (trodAll_cons_mk (shut_bool Try.underlying4 _) trodAll_mk0)))), rfl, bel.frame _, fun h => by cases h⟩

theorem over1 : Rows.fnClusterIPIsTheStringAtSpecClusterIPRow.holds Try.pinned (OpenSpec.ofChange Rows.fnClusterIPIsTheStringAtSpecClusterIPSpec) :=
  OpenClaim.holds_of_wide 5 Try.f5 rfl rfl rfl rfl rfl rfl rfl ⟨rfl, rfl, rfl, rfl, rfl⟩ rfl rfl rfl rfl rfl (by kernel_rfl) Try.func5 (by kernel_rfl)
    (of_decide_eq_true (by kernel_rfl)) (by unfold Func.isWrapper; first | (rw [if_pos (by decide +kernel)]; kernel_rfl) | (rw [if_neg (by decide +kernel)]; exact ⟨rfl, rfl⟩))
    (fun os started H enc _ => lifted1 os started H enc)

/-- THE STATEMENT. -/
theorem proved1 : Rows.FnClusterIPIsTheStringAtSpecClusterIPSaid := over1

end Go.Proofs.Qxb6615952a
