/- The walks of the two laws. -/
import Derived.Test.Qxb6614836aRows
import Derived.WalkKit
import Derived.WalkSpells
import Derived.WalkLawsBesides
import Derived.LaidEql
namespace Go.Proofs.Qxb6614836a
open Go.RowKit

theorem ta22 (p : Option Addr) (w : World) : (Instr.typeAssert (.iface 22 (.pointer p)) 33 22 true).run Try.prog w = .ok (.tuple #[.pointer p, .bool true]) w := by kernel_rfl
theorem ta35 (n : Int) (w : World) : (Instr.typeAssert (.iface 35 (.int .u8 n)) 33 35 true).run Try.prog w = .ok (.tuple #[.int .u8 n, .bool true]) w := by kernel_rfl
theorem ta35no (p : Option Addr) (w : World) : (Instr.typeAssert (.iface 22 (.pointer p)) 33 35 true).run Try.prog w = .ok (.tuple #[.int .u8 0, .bool false]) w := by kernel_rfl
theorem nil22 (a : Addr) (w : World) : (binOp .eql 22 (.pointer (some a)) (.pointer none)).run Try.prog w = .ok (.bool false) w := by kernel_rfl

theorem size39 : (Try.prog.info? 39).map (fun i => i.size) = some 2 := by kernel_rfl
/-- A pointer is not unequal to itself. -/
theorem neq22 (a : Addr) (w : World) : (binOp .neq 22 (.pointer (some a)) (.pointer (some a))).run Try.prog w = .ok (.bool false) w := by
  obtain ⟨i, hi, _⟩ := Option.map_eq_some_iff.1 size39
  have h : ∀ d : Nat, (Op.equalIn (d + 1) 22 (.pointer (some a)) (.pointer (some a))).run Try.prog w = .ok true w := fun d => by
    simp [Op.equalIn, run_underlying Try.underlying22, sizeOf, typeInfo, hi, run_sameAddr_same]
  simp only [binOp]
  simp [Op.equal, Op.maxDepth, h 9999]

set_option maxHeartbeats 400000 in
theorem walk3 (a inner : Int) (w : World) :
    Calls Try.prog 3 #[.int .u8 a, .int .u8 inner] w fun e w' => e = .returned (.bool true) ∧ Below w.heap.size w w' := by
  have h1 := ta22
  have h2 := ta35
  have h3 := nil22
  go_enter Try.func3, Try.ntmps3
  go_wp2
  go_ret
  exact ⟨rfl, (Below.refl _ _).alloc (Nat.le_refl _) _⟩

set_option maxHeartbeats 400000 in
theorem walk4 (a b inner : Int) (w : World) :
    Calls Try.prog 4 #[.int .u8 a, .int .u8 b, .int .u8 inner] w fun e w' => e = .returned (.bool true) ∧ Below w.heap.size w w' := by
  have h1 := ta22
  have h2 := ta35
  have h3 := nil22
  have h4 := ta35no
  have h5 := neq22
  go_enter Try.func4, Try.ntmps4
  go_wp2
  go_ret
  exact ⟨rfl, ((Below.refl _ _).alloc (Nat.le_refl _) _).alloc (by simp) _⟩

end Go.Proofs.Qxb6614836a
