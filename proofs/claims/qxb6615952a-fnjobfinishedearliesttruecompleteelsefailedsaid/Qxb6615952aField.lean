/- (Object).Field at a path of two keys. -/
import Derived.Test.Qxb6615952aBase
namespace Go.Proofs.Qxb6615952a
open Go.RowKit

/-- What lies at the path k1, k2 below the map in block b: v (nil where the path breaks). -/
def Path2 (w : World) (b : Nat) (k1 k2 : ByteArray) (v : Value) : Prop :=
  ∃ n f, Holds w b n f ∧ ((∃ m n' g, f k1.toList = some (.iface 30 (.map (some m))) ∧ Holds w m n' g ∧ v = (g k2.toList).getD .nilIface) ∨ (∃ s, f k1.toList = some (.iface 9 (.string s)) ∧ v = .nilIface))

theorem ta_map (m : Option Nat) (w : World) : (Instr.typeAssert (.iface 30 (.map m)) 20 30 true).run Try.prog w = .ok (.tuple #[.map m, .bool true]) w := by kernel_rfl
theorem ta_str (s : ByteArray) (w : World) : (Instr.typeAssert (.iface 9 (.string s)) 20 30 true).run Try.prog w = .ok (.tuple #[.map none, .bool false]) w := by kernel_rfl

/-- The call came back with v and some bool. -/
def Found (v : Value) (e : Ending) : Prop := ∃ ok : Bool, e = .returned (.tuple #[v, .bool ok])
theorem found (v : Value) (ok : Bool) : Found v (.returned (.tuple #[v, .bool ok])) := ⟨ok, rfl⟩

set_option maxHeartbeats 400000 in
theorem field_text (b n p : Nat) (f : List UInt8 → Option Value) (k1 k2 : ByteArray) (s : ByteArray) (w : World) (h : Holds w b n f) (hf : f k1.toList = some (.iface 9 (.string s)))
    (hp0 : w.cell? ⟨p, 0, none⟩ = some (.string k1)) (hp1 : w.cell? ⟨p, 1, none⟩ = some (.string k2)) (hk1 : k1.size ≤ maxLen) :
    Calls Try.prog 20 #[.map (some b), .slice (some ⟨p, 0, none⟩) 2 2] w fun e w' => Found .nilIface e ∧ w' = w := by
  have hl := h.look_ok 30 Try.underlying30 k1 hk1
  rw [hf] at hl
  simp only [Option.getD_some, Option.isSome_some] at hl
  have hm := ta_map (some b)
  have ht := ta_str s
  clear hf h
  go_enter Try.func20, Try.ntmps20
  go_wp2
  go_loop [6, 15] (fun u i => (i = .int .i64 0 ∧ u = .iface 30 (.map (some b))) ∨ (i = .int .i64 1 ∧ u = .iface 9 (.string s))) (fun _ i => 3 - (intOf i).toNat)
  case atStart => exact Or.inl ⟨rfl, rfl⟩
  case round =>
    rcases hrel with ⟨rfl, rfl⟩ | ⟨rfl, rfl⟩
    · go_wp2
      go_round
      case rel => exact Or.inr ⟨rfl, rfl⟩
      case measure => simp [intOf]
    · go_wp2
      go_ret2
      exact ⟨found _ _, rfl⟩

set_option maxHeartbeats 400000 in
theorem field_map (b n p m n' : Nat) (f g : List UInt8 → Option Value) (k1 k2 : ByteArray) (w : World) (h : Holds w b n f) (hf : f k1.toList = some (.iface 30 (.map (some m)))) (hg : Holds w m n' g)
    (hp0 : w.cell? ⟨p, 0, none⟩ = some (.string k1)) (hp1 : w.cell? ⟨p, 1, none⟩ = some (.string k2)) (hk1 : k1.size ≤ maxLen) (hk2 : k2.size ≤ maxLen) :
    Calls Try.prog 20 #[.map (some b), .slice (some ⟨p, 0, none⟩) 2 2] w fun e w' => Found ((g k2.toList).getD .nilIface) e ∧ w' = w := by
  have hl := h.look_ok 30 Try.underlying30 k1 hk1
  rw [hf] at hl
  simp only [Option.getD_some, Option.isSome_some] at hl
  have hl2 := hg.look_ok 30 Try.underlying30 k2 hk2
  have hm := ta_map (some b)
  have ht := ta_map (some m)
  clear hf h hg
  cases hgk : g k2.toList
  · rw [hgk] at hl2
    simp only [Option.getD_none, Option.isSome_none] at hl2 ⊢
    go_enter Try.func20, Try.ntmps20
    go_wp2
    go_loop [6, 15] (fun u i => (i = .int .i64 0 ∧ u = .iface 30 (.map (some b))) ∨ (i = .int .i64 1 ∧ u = .iface 30 (.map (some m)))) (fun _ i => 3 - (intOf i).toNat)
    case atStart => exact Or.inl ⟨rfl, rfl⟩
    case round =>
      rcases hrel with ⟨rfl, rfl⟩ | ⟨rfl, rfl⟩
      · go_wp2
        go_round
        case rel => exact Or.inr ⟨rfl, rfl⟩
        case measure => simp [intOf]
      · go_wp2
        go_ret2
        exact ⟨found _ _, rfl⟩
  · rename_i v
    rw [hgk] at hl2
    simp only [Option.getD_some, Option.isSome_some] at hl2 ⊢
    go_enter Try.func20, Try.ntmps20
    go_wp2
    go_loop [6, 15] (fun u i => (i = .int .i64 0 ∧ u = .iface 30 (.map (some b))) ∨ (i = .int .i64 1 ∧ u = .iface 30 (.map (some m))) ∨ (i = .int .i64 2 ∧ u = v)) (fun _ i => 3 - (intOf i).toNat)
    case atStart => exact Or.inl ⟨rfl, rfl⟩
    case round =>
      rcases hrel with ⟨rfl, rfl⟩ | ⟨rfl, rfl⟩ | ⟨rfl, rfl⟩
      · go_wp2
        go_round
        case rel => exact Or.inr (Or.inl ⟨rfl, rfl⟩)
        case measure => simp [intOf]
      · go_wp2
        go_round
        case rel => exact Or.inr (Or.inr ⟨rfl, rfl⟩)
        case measure => simp [intOf]
      · go_wp2
        go_ret2
        exact ⟨found _ _, rfl⟩

theorem field20 (b p : Nat) (k1 k2 : ByteArray) (v : Value) (w : World) (h : Path2 w b k1 k2 v)
    (hp0 : w.cell? ⟨p, 0, none⟩ = some (.string k1)) (hp1 : w.cell? ⟨p, 1, none⟩ = some (.string k2)) (hk1 : k1.size ≤ maxLen) (hk2 : k2.size ≤ maxLen) :
    Calls Try.prog 20 #[.map (some b), .slice (some ⟨p, 0, none⟩) 2 2] w fun e w' => Found v e ∧ w' = w := by
  obtain ⟨n, f, hh, ⟨m, n', g, hf, hg, rfl⟩ | ⟨s, hf, rfl⟩⟩ := h
  · exact field_map b n p m n' f g k1 k2 w hh hf hg hp0 hp1 hk1 hk2
  · exact field_text b n p f k1 k2 s w hh hf hp0 hp1 hk1

end Go.Proofs.Qxb6615952a
