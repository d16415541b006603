/- The bounds' functions of this seat: zzBytes_.. and zzPairsTooBig answer some bool and write nothing. -/
import Derived.Test.Qxb6615993aBase
namespace Go.Proofs.Qxb6615993a
open Go.RowKit

/-- The call came back with one bool. -/
def AnyBool (e : Ending) : Prop := ∃ b : Bool, e = .returned (.bool b)
theorem anyBool (b : Bool) : AnyBool (.returned (.bool b)) := ⟨b, rfl⟩

set_option maxHeartbeats 400000 in
theorem bytes6 (a0 a1 : Option Addr) (n0 n1 c0 c1 : Nat) (s0 s1 : List ByteArray) (k x : ByteArray) (w : World)
    (h0 : StrRow w a0 n0 s0) (h1 : StrRow w a1 n1 s1) :
    Calls Try.prog 6 #[.slice a0 n0 c0, .slice a1 n1 c1, .string k, .string x] w fun e w' => AnyBool e ∧ w' = w := by
  go_enter Try.func6, Try.ntmps6
  go_wp2
  · go_ret
    exact ⟨anyBool _, rfl⟩
  · go_loop [9, 10] (fun z i => ∃ (j : Nat) (q : Int), j ≤ n0 ∧ i = .int .i64 j ∧ z = .int .i64 q) (fun _ i => n0 - (intOf i).toNat)
    case atStart => exact ⟨0, _, Nat.zero_le _, rfl, rfl⟩
    case round =>
      obtain ⟨j, q, hj, rfl, rfl⟩ := hrel
      by_cases hlt : j < n0
      · have hi := ix (c := c0) (h0.addr j hlt) hlt
        have hc := h0.cells j hlt
        go_wp2
        · go_ret
          exact ⟨anyBool _, rfl⟩
        · go_ret
          exact ⟨anyBool _, rfl⟩
        · go_round
          case rel => exact ⟨j + 1, _, by omega, by go_num, rfl⟩
          case measure => simp [intOf]; omega
      · go_wp2
        · go_ret
          exact ⟨anyBool _, rfl⟩
        · go_ret
          exact ⟨anyBool _, rfl⟩
        · go_loop [9, 11] (fun z i => ∃ (j : Nat) (q : Int), j ≤ n1 ∧ i = .int .i64 j ∧ z = .int .i64 q) (fun _ i => n1 - (intOf i).toNat)
          case atStart => exact ⟨0, _, Nat.zero_le _, rfl, rfl⟩
          case round =>
            obtain ⟨j, q, hj, rfl, rfl⟩ := hrel
            by_cases hlt : j < n1
            · have hi := ix (c := c1) (h1.addr j hlt) hlt
              have hc := h1.cells j hlt
              go_wp2
              · go_ret
                exact ⟨anyBool _, rfl⟩
              · go_ret
                exact ⟨anyBool _, rfl⟩
              · go_round
                case rel => exact ⟨j + 1, _, by omega, by go_num, rfl⟩
                case measure => simp [intOf]; omega
            · go_wp2
              all_goals
                go_ret
                exact ⟨anyBool _, rfl⟩

set_option maxHeartbeats 400000 in
theorem bytes15 (a0 a1 : Option Addr) (n0 n1 c0 c1 : Nat) (s0 s1 : List ByteArray) (k x : ByteArray) (v : Int) (w : World)
    (h0 : StrRow w a0 n0 s0) (h1 : StrRow w a1 n1 s1) :
    Calls Try.prog 15 #[.slice a0 n0 c0, .slice a1 n1 c1, .string k, .int .i64 v, .string x] w fun e w' => AnyBool e ∧ w' = w := by
  go_enter Try.func15, Try.ntmps15
  go_wp2
  · go_ret
    exact ⟨anyBool _, rfl⟩
  · go_loop [11, 12] (fun z i => ∃ (j : Nat) (q : Int), j ≤ n0 ∧ i = .int .i64 j ∧ z = .int .i64 q) (fun _ i => n0 - (intOf i).toNat)
    case atStart => exact ⟨0, _, Nat.zero_le _, rfl, rfl⟩
    case round =>
      obtain ⟨j, q, hj, rfl, rfl⟩ := hrel
      by_cases hlt : j < n0
      · have hi := ix (c := c0) (h0.addr j hlt) hlt
        have hc := h0.cells j hlt
        go_wp2
        · go_ret
          exact ⟨anyBool _, rfl⟩
        · go_ret
          exact ⟨anyBool _, rfl⟩
        · go_round
          case rel => exact ⟨j + 1, _, by omega, by go_num, rfl⟩
          case measure => simp [intOf]; omega
      · go_wp2
        · go_ret
          exact ⟨anyBool _, rfl⟩
        · go_ret
          exact ⟨anyBool _, rfl⟩
        · go_loop [11, 13] (fun z i => ∃ (j : Nat) (q : Int), j ≤ n1 ∧ i = .int .i64 j ∧ z = .int .i64 q) (fun _ i => n1 - (intOf i).toNat)
          case atStart => exact ⟨0, _, Nat.zero_le _, rfl, rfl⟩
          case round =>
            obtain ⟨j, q, hj, rfl, rfl⟩ := hrel
            by_cases hlt : j < n1
            · have hi := ix (c := c1) (h1.addr j hlt) hlt
              have hc := h1.cells j hlt
              go_wp2
              · go_ret
                exact ⟨anyBool _, rfl⟩
              · go_ret
                exact ⟨anyBool _, rfl⟩
              · go_round
                case rel => exact ⟨j + 1, _, by omega, by go_num, rfl⟩
                case measure => simp [intOf]; omega
            · go_wp2
              all_goals
                go_ret
                exact ⟨anyBool _, rfl⟩

set_option maxHeartbeats 400000 in
theorem pairs7 (a0 a1 : Option Addr) (n0 n1 c0 c1 : Nat) (s0 s1 : List ByteArray) (k x : ByteArray) (w : World)
    (h0 : StrRow w a0 n0 s0) (h1 : StrRow w a1 n1 s1) (hn0 : n0 ≤ 65536) (hn1 : n1 ≤ 65536) :
    Calls Try.prog 7 #[.slice a0 n0 c0, .slice a1 n1 c1, .string k, .string x] w fun e w' => AnyBool e ∧ w' = w := by
  go_enter Try.func7, Try.ntmps7
  go_wp2
  · go_ret
    exact ⟨anyBool _, rfl⟩
  · go_ret
    exact ⟨anyBool _, rfl⟩
  · go_loop [9, 10] (fun z i => ∃ (j : Nat) (q : Int), j ≤ n0 ∧ i = .int .i64 j ∧ z = .int .i64 q) (fun _ i => n0 - (intOf i).toNat)
    case atStart => exact ⟨0, _, Nat.zero_le _, rfl, rfl⟩
    case round =>
      obtain ⟨j, q, hj, rfl, rfl⟩ := hrel
      by_cases hlt : j < n0
      · have hi := ix (c := c0) (h0.addr j hlt) hlt
        have hc := h0.cells j hlt
        go_wp2
        · go_ret
          exact ⟨anyBool _, rfl⟩
        · go_round
          case rel => exact ⟨j + 1, _, by omega, by go_num, rfl⟩
          case measure => simp [intOf]; omega
      · go_wp2
        go_loop [9, 11] (fun z i => ∃ (j : Nat) (q : Int), j ≤ n1 ∧ i = .int .i64 j ∧ z = .int .i64 q) (fun _ i => n1 - (intOf i).toNat)
        case atStart => exact ⟨0, _, Nat.zero_le _, rfl, rfl⟩
        case round =>
          obtain ⟨j, q, hj, rfl, rfl⟩ := hrel
          by_cases hlt : j < n1
          · have hi := ix (c := c1) (h1.addr j hlt) hlt
            have hc := h1.cells j hlt
            go_wp2
            · go_ret
              exact ⟨anyBool _, rfl⟩
            · go_round
              case rel => exact ⟨j + 1, _, by omega, by go_num, rfl⟩
              case measure => simp [intOf]; omega
          · go_wp2
            go_ret
            exact ⟨anyBool _, rfl⟩
  · go_ret
    exact ⟨anyBool _, rfl⟩

end Go.Proofs.Qxb6615993a
