/- The bounds' functions and jfEarliestTrue. -/
import Derived.Test.Qxb6615952aStrs
namespace Go.Proofs.Qxb6615952a
open Go.RowKit

/-- The call came back with one bool. -/
def OneBool (e : Ending) : Prop := ∃ b : Bool, e = .returned (.bool b)
theorem oneBool (b : Bool) : OneBool (.returned (.bool b)) := ⟨b, rfl⟩

set_option maxHeartbeats 1000000 in
theorem bytes6 (a0 a1 a2 : Option Addr) (n0 n1 n2 c0 c1 c2 : Nat) (s0 s1 s2 : List ByteArray) (w : World)
    (h0 : StrRow w a0 n0 s0) (h1 : StrRow w a1 n1 s1) (h2 : StrRow w a2 n2 s2) :
    Calls Try.prog 6 #[.slice a0 n0 c0, .slice a1 n1 c1, .slice a2 n2 c2] w fun e w' => OneBool e ∧ w' = w := by
  go_enter Try.func6, Try.ntmps6
  go_wp2
  · go_ret
    exact ⟨oneBool _, rfl⟩
  · go_loop [7, 8] (fun z i => ∃ (j : Nat) (q : Int), j ≤ n0 ∧ i = .int .i64 j ∧ z = .int .i64 q) (fun _ i => n0 - (intOf i).toNat)
    case atStart => exact ⟨0, _, Nat.zero_le _, rfl, rfl⟩
    case round =>
      obtain ⟨j, q, hj, rfl, rfl⟩ := hrel
      by_cases hlt : j < n0
      · have hi := ix (c := c0) (h0.addr j hlt) hlt
        have hc := h0.cells j hlt
        go_wp2
        · go_ret
          exact ⟨oneBool _, rfl⟩
        · go_ret
          exact ⟨oneBool _, rfl⟩
        · go_round
          case rel => exact ⟨j + 1, _, by omega, by go_num, rfl⟩
          case measure => simp [intOf]; omega
      · go_wp2
        · go_ret
          exact ⟨oneBool _, rfl⟩
        · go_ret
          exact ⟨oneBool _, rfl⟩
        · go_loop [7, 9] (fun z i => ∃ (j : Nat) (q : Int), j ≤ n1 ∧ i = .int .i64 j ∧ z = .int .i64 q) (fun _ i => n1 - (intOf i).toNat)
          case atStart => exact ⟨0, _, Nat.zero_le _, rfl, rfl⟩
          case round =>
            obtain ⟨j, q, hj, rfl, rfl⟩ := hrel
            by_cases hlt : j < n1
            · have hi := ix (c := c1) (h1.addr j hlt) hlt
              have hc := h1.cells j hlt
              go_wp2
              · go_ret
                exact ⟨oneBool _, rfl⟩
              · go_ret
                exact ⟨oneBool _, rfl⟩
              · go_round
                case rel => exact ⟨j + 1, _, by omega, by go_num, rfl⟩
                case measure => simp [intOf]; omega
            · go_wp2
              · go_ret
                exact ⟨oneBool _, rfl⟩
              · go_ret
                exact ⟨oneBool _, rfl⟩
              · go_loop [7, 10] (fun z i => ∃ (j : Nat) (q : Int), j ≤ n2 ∧ i = .int .i64 j ∧ z = .int .i64 q) (fun _ i => n2 - (intOf i).toNat)
                case atStart => exact ⟨0, _, Nat.zero_le _, rfl, rfl⟩
                case round =>
                  obtain ⟨j, q, hj, rfl, rfl⟩ := hrel
                  by_cases hlt : j < n2
                  · have hi := ix (c := c2) (h2.addr j hlt) hlt
                    have hc := h2.cells j hlt
                    go_wp2
                    · go_ret
                      exact ⟨oneBool _, rfl⟩
                    · go_ret
                      exact ⟨oneBool _, rfl⟩
                    · go_round
                      case rel => exact ⟨j + 1, _, by omega, by go_num, rfl⟩
                      case measure => simp [intOf]; omega
                  · go_wp2
                    all_goals
                      go_ret
                      exact ⟨oneBool _, rfl⟩

/-- The call came back with one int. -/
def AnyInt (e : Ending) : Prop := ∃ q : Int, e = .returned (.int .i64 q)
theorem anyInt (q : Int) : AnyInt (.returned (.int .i64 q)) := ⟨q, rfl⟩

set_option maxHeartbeats 400000 in
theorem strBytes7 (a : Option Addr) (n c : Nat) (s : List ByteArray) (acc : Int) (w : World) (h : StrRow w a n s) (hn : n ≤ 65536) :
    Calls Try.prog 7 #[.slice a n c, .int .i64 acc] w fun e w' => AnyInt e ∧ w' = w := by
  go_enter Try.func7, Try.ntmps7
  go_wp2
  go_loop [1, 5] (fun z i => ∃ (j : Nat) (q : Int), j ≤ n ∧ i = .int .i64 j ∧ z = .int .i64 q) (fun _ i => n - (intOf i).toNat)
  case atStart => exact ⟨0, _, Nat.zero_le _, rfl, rfl⟩
  case round =>
    obtain ⟨j, q, hj, rfl, rfl⟩ := hrel
    by_cases hlt : j < n
    · have hi := ix (c := c) (h.addr j hlt) hlt
      have hc := h.cells j hlt
      go_wp2
      · go_ret
        exact ⟨anyInt _, rfl⟩
      · go_round
        case rel => exact ⟨j + 1, _, by omega, by go_num, rfl⟩
        case measure => simp [intOf]; omega
    · go_wp2
      go_ret
      exact ⟨anyInt _, rfl⟩

/-! ### the earliest index -/
/-- The least index from q on at which s holds the text ty, else -1. -/
def ear (s : List ByteArray) (ty : List UInt8) (q : Nat) : Int :=
  match (s.drop q).findIdx? (fun t => t.toList == ty) with
  | some i => ((q + i : Nat) : Int)
  | none => -1

theorem ear_len (s : List ByteArray) (ty : List UInt8) : ear s ty s.length = -1 := by
  simp [ear]

theorem ear_hit (s : List ByteArray) (ty : List UInt8) (q : Nat) (hq : q < s.length) (h : ((s.getD q ByteArray.empty).toList == ty) = true) : ear s ty q = q := by
  have hd : s.drop q = s[q] :: s.drop (q + 1) := List.drop_eq_getElem_cons hq
  have e : s.getD q ByteArray.empty = s[q] := by simp [hq]
  rw [e] at h
  unfold ear
  rw [hd, List.findIdx?_cons]
  simp [h]

theorem ear_miss (s : List ByteArray) (ty : List UInt8) (q : Nat) (hq : q < s.length) (h : ((s.getD q ByteArray.empty).toList == ty) = false) : ear s ty q = ear s ty (q + 1) := by
  have hd : s.drop q = s[q] :: s.drop (q + 1) := List.drop_eq_getElem_cons hq
  have e : s.getD q ByteArray.empty = s[q] := by simp [hq]
  rw [e] at h
  unfold ear
  rw [hd, List.findIdx?_cons]
  simp only [h, Bool.false_eq_true, if_false]
  cases (s.drop (q + 1)).findIdx? (fun t => t.toList == ty) with
  | none => rfl
  | some i => simp; omega

/-- What the earliest index says. -/
theorem ear_cases (s : List ByteArray) (ty : List UInt8) (q : Nat) (hq : q ≤ s.length) :
    (ear s ty q = -1 ∧ ∀ i, q ≤ i → i < s.length → ((s.getD i ByteArray.empty).toList == ty) = false) ∨
    ∃ k : Nat, q ≤ k ∧ k < s.length ∧ ear s ty q = k ∧ ((s.getD k ByteArray.empty).toList == ty) = true ∧ ∀ i, q ≤ i → i < k → ((s.getD i ByteArray.empty).toList == ty) = false := by
  obtain ⟨d, hd⟩ : ∃ d, q + d = s.length := ⟨s.length - q, by omega⟩
  induction d generalizing q with
  | zero =>
    have e : q = s.length := by omega
    subst e
    exact Or.inl ⟨ear_len s ty, fun i h1 h2 => absurd h2 (by omega)⟩
  | succ d ih =>
    cases h : ((s.getD q ByteArray.empty).toList == ty) with
    | true => exact Or.inr ⟨q, Nat.le_refl _, by omega, ear_hit s ty q (by omega) h, h, fun i h1 h2 => absurd h2 (by omega)⟩
    | false =>
      rw [ear_miss s ty q (by omega) h]
      rcases ih (q + 1) (by omega) (by omega) with ⟨e, hn⟩ | ⟨k, k1, k2, k3, k4, k5⟩
      · refine Or.inl ⟨e, fun i h1 h2 => ?_⟩
        by_cases hi : i = q
        · rw [hi]; exact h
        · exact hn i (by omega) h2
      · refine Or.inr ⟨k, by omega, k2, k3, k4, fun i h1 h2 => ?_⟩
        by_cases hi : i = q
        · rw [hi]; exact h
        · exact k5 i (by omega) h2

def tyC : List UInt8 := [67, 111, 109, 112, 108, 101, 116, 101]
def tyF : List UInt8 := [70, 97, 105, 108, 101, 100]
def tru : List UInt8 := [84, 114, 117, 101]

/-- Does the row at k (if k is an index) say True? -/
def says (s : List ByteArray) (k : Int) : Bool := decide (0 ≤ k) && ((s.getD k.toNat ByteArray.empty).toList == tru)

/-- jfEarliestTrue's answer. -/
def pick (s0 s1 : List ByteArray) : Int := if says s1 (ear s0 tyC 0) then ear s0 tyC 0 else if says s1 (ear s0 tyF 0) then ear s0 tyF 0 else -1

theorem ret_int {a b : Int} (h : a = b) : Ending.returned (.int .i64 a) = .returned (.int .i64 b) := by rw [h]

theorem ev_yes (s : List ByteArray) (ty : List UInt8) (q n : Nat) (hl : s.length = n) (hq : q < n) (h : ((s[q]?.getD ByteArray.empty).toList == ty) = true) : Value.int .i64 (q : Int) = .int .i64 (ear s ty q) := by
  rw [ear_hit s ty q (by omega) (by simpa using h)]
theorem ev_no (s : List ByteArray) (ty : List UInt8) (q n : Nat) (hl : s.length = n) (hq : q < n) (h : ((s[q]?.getD ByteArray.empty).toList == ty) = false) : Value.int .i64 (ear s ty (q + 1)) = .int .i64 (ear s ty q) := by
  rw [ear_miss s ty q (by omega) (by simpa using h)]

theorem says_neg (s : List ByteArray) : says s (-1) = false := by simp [says]
theorem says_nat (s : List ByteArray) (k : Nat) : says s k = ((s.getD k ByteArray.empty).toList == tru) := by simp [says]

set_option maxHeartbeats 1000000 in
theorem earliest8 (a0 a1 : Option Addr) (n c0 c1 : Nat) (s0 s1 : List ByteArray) (w : World) (h0 : StrRow w a0 n s0) (h1 : StrRow w a1 n s1) (hn : n ≤ 65536) :
    Calls Try.prog 8 #[.slice a0 n c0, .slice a1 n c1] w fun e w' => e = .returned (.int .i64 (pick s0 s1)) ∧ w' = w := by
  go_enter Try.func8, Try.ntmps8
  go_wp2
  go_loop [5, 6, 7] (fun ic f i => ∃ (q : Nat) (z : Int), q ≤ n ∧ z + 1 = q ∧ i = .int .i64 z ∧ ic = .int .i64 (ear s0 tyC q) ∧ f = .int .i64 (ear s0 tyF q)) (fun _ _ i => (intOf i + 1).toNat)
  case atStart =>
    have e1 : ear s0 tyC n = -1 := by rw [← h0.len]; exact ear_len _ _
    have e2 : ear s0 tyF n = -1 := by rw [← h0.len]; exact ear_len _ _
    exact ⟨n, _, Nat.le_refl _, by omega, rfl, by rw [e1], by rw [e2]⟩
  case round =>
    obtain ⟨q, z, hq, hz, rfl, rfl, rfl⟩ := hrel
    cases q with
    | succ q =>
      obtain rfl : z = (q : Int) := by omega
      have hlt : q < n := by omega
      have hi := ix (c := c0) (h0.addr q hlt) hlt
      have hc := h0.cells q hlt
      have hl := h0.len
      have HL : Hid (s0.length = n) := hl
      clear hl hz
      go_wp2
      · go_round
        case rel => exact ⟨q, (q : Int) - 1, by omega, by omega, rfl, ev_yes s0 tyC q n HL.out hlt (by assumption), ev_yes s0 tyF q n HL.out hlt (by assumption)⟩
        case measure => simp [intOf]
      · go_round
        case rel => exact ⟨q, (q : Int) - 1, by omega, by omega, rfl, ev_yes s0 tyC q n HL.out hlt (by assumption), ev_no s0 tyF q n HL.out hlt (by assumption)⟩
        case measure => simp [intOf]
      · go_round
        case rel => exact ⟨q, (q : Int) - 1, by omega, by omega, rfl, ev_no s0 tyC q n HL.out hlt (by assumption), ev_yes s0 tyF q n HL.out hlt (by assumption)⟩
        case measure => simp [intOf]
      · go_round
        case rel => exact ⟨q, (q : Int) - 1, by omega, by omega, rfl, ev_no s0 tyC q n HL.out hlt (by assumption), ev_no s0 tyF q n HL.out hlt (by assumption)⟩
        case measure => simp [intOf]
    | zero =>
      obtain rfl : z = -1 := by omega
      clear hz
      have hp : pick s0 s1 = if says s1 (ear s0 tyC 0) then ear s0 tyC 0 else if says s1 (ear s0 tyF 0) then ear s0 tyF 0 else -1 := rfl
      have hl := h0.len
      rcases ear_cases s0 tyC 0 (Nat.zero_le _) with ⟨eC, _⟩ | ⟨k, _, hkn, eC, _, _⟩
      · rcases ear_cases s0 tyF 0 (Nat.zero_le _) with ⟨eF, _⟩ | ⟨m, _, hmn, eF, _, _⟩
        · rw [eC, eF, says_neg] at hp
          have HP : Hid (-1 = pick s0 s1) := by rw [hp]; rfl
          clear hp hl
          go_wp2
          go_ret
          exact ⟨ret_int HP.out, rfl⟩
        · rw [eC, eF, says_neg, says_nat] at hp
          have him := ix (c := c1) (h1.addr m (by omega)) (show m < n by omega)
          have hcm := h1.cells m (by omega)
          cases hm : ((s1.getD m ByteArray.empty).toList == tru)
          all_goals
            rw [hm] at hp
            simp only [Bool.false_eq_true, if_false, if_true] at hp
            have HP : Hid (pick s0 s1 = _) := hp
            have hm' := hm
            unfold tru at hm'
            generalize s1.getD m ByteArray.empty = xm at hcm hm'
            clear hp hl hm
            go_wp2
            go_ret
            exact ⟨ret_int HP.out.symm, rfl⟩
      · rw [eC, says_nat] at hp
        have hik := ix (c := c1) (h1.addr k (by omega)) (show k < n by omega)
        have hck := h1.cells k (by omega)
        cases hk : ((s1.getD k ByteArray.empty).toList == tru)
        · rw [hk] at hp
          simp only [Bool.false_eq_true, if_false] at hp
          have hk' := hk
          unfold tru at hk'
          generalize s1.getD k ByteArray.empty = xk at hck hk'
          clear hk
          rcases ear_cases s0 tyF 0 (Nat.zero_le _) with ⟨eF, _⟩ | ⟨m, _, hmn, eF, _, _⟩
          · rw [eF, says_neg] at hp
            have HP : Hid (-1 = pick s0 s1) := by rw [hp]; rfl
            clear hp hl
            go_wp2
            go_ret
            exact ⟨ret_int HP.out, rfl⟩
          · rw [eF, says_nat] at hp
            have him := ix (c := c1) (h1.addr m (by omega)) (show m < n by omega)
            have hcm := h1.cells m (by omega)
            cases hm : ((s1.getD m ByteArray.empty).toList == tru)
            all_goals
              rw [hm] at hp
              simp only [Bool.false_eq_true, if_false, if_true] at hp
              have HP : Hid (pick s0 s1 = _) := hp
              have hm' := hm
              unfold tru at hm'
              generalize s1.getD m ByteArray.empty = xm at hcm hm'
              clear hp hl hm
              go_wp2
              go_ret
              exact ⟨ret_int HP.out.symm, rfl⟩
        · rw [hk] at hp
          simp only [if_true] at hp
          have hk' := hk
          unfold tru at hk'
          generalize s1.getD k ByteArray.empty = xk at hck hk'
          have HP : Hid (pick s0 s1 = _) := hp
          clear hp hl hk
          go_wp2
          go_ret
          exact ⟨ret_int HP.out.symm, rfl⟩

end Go.Proofs.Qxb6615952a
