/- zzLastAppliedModel: the value of the last pair whose key is the annotation's. -/
import Derived.Test.Qxb6615993aPlain
namespace Go.Proofs.Qxb6615993a
open Go.RowKit

theorem look_yes (s0 s1 : List ByteArray) (j n : Nat) (h0 : s0.length = n) (h1 : s1.length = n) (hj : j < n) (h : ((s0[j]?.getD ByteArray.empty).toList == keyL) = true) :
    Value.string (s1[j]?.getD ByteArray.empty) = .string (look ((s0.zip s1).take (j + 1)) ByteArray.empty) := by
  rw [take_zip s0 s1 j n h0 h1 hj, look_snoc, if_pos (by simpa [isKey] using h)]
  simp

theorem look_no (s0 s1 : List ByteArray) (j n : Nat) (h0 : s0.length = n) (h1 : s1.length = n) (hj : j < n) (h : ((s0[j]?.getD ByteArray.empty).toList == keyL) = false) :
    Value.string (look ((s0.zip s1).take j) ByteArray.empty) = .string (look ((s0.zip s1).take (j + 1)) ByteArray.empty) := by
  rw [take_zip s0 s1 j n h0 h1 hj, look_snoc, if_neg (by simpa [isKey] using h)]

set_option maxHeartbeats 400000 in
theorem model8 (a0 a1 : Option Addr) (n c0 c1 : Nat) (s0 s1 : List ByteArray) (w : World)
    (h0 : StrRow w a0 n s0) (h1 : StrRow w a1 n s1) (hn : n ≤ 65536) :
    Calls Try.prog 8 #[.slice a0 n c0, .slice a1 n c1] w fun e w' => e = .returned (.string (look (s0.zip s1) ByteArray.empty)) ∧ w' = w := by
  go_enter Try.func8, Try.ntmps8
  go_wp2
  go_loop [5, 6] (fun z i => ∃ (j : Nat), j ≤ n ∧ i = .int .i64 j ∧ z = .string (look ((s0.zip s1).take j) ByteArray.empty)) (fun _ i => n - (intOf i).toNat)
  case atStart => exact ⟨0, Nat.zero_le _, rfl, rfl⟩
  case round =>
    obtain ⟨j, hj, rfl, rfl⟩ := hrel
    by_cases hlt : j < n
    · have hi0 := ix (c := c0) (h0.addr j hlt) hlt
      have hc0 := h0.cells j hlt
      have hi1 := ix (c := c1) (h1.addr j hlt) hlt
      have hc1 := h1.cells j hlt
      go_wp2
      · go_round
        case rel => exact ⟨j + 1, by omega, by go_num, look_yes s0 s1 j n h0.len h1.len hlt (by assumption)⟩
        case measure => simp [intOf]; omega
      · go_round
        case rel => exact ⟨j + 1, by omega, by go_num, look_no s0 s1 j n h0.len h1.len hlt (by assumption)⟩
        case measure => simp [intOf]; omega
    · go_wp2
      go_ret
      exact ⟨ret_str (by rw [take_zip_all s0 s1 j n h0.len hlt]), rfl⟩

end Go.Proofs.Qxb6615993a
