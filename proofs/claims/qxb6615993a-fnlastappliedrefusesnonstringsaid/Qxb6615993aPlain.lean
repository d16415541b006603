/- The plain part: the last value at the annotation's key, with no Go in sight (but for the model's values). -/
import Derived.Test.Qxb6615993aBase
namespace Go.Proofs.Qxb6615993a
open Go.RowKit

/-- The annotation's key, byte by byte. -/
def keyL : List UInt8 := [107, 117, 98, 101, 99, 116, 108, 46, 107, 117, 98, 101, 114, 110, 101, 116, 101, 115, 46, 105, 111, 47, 108, 97, 115, 116, 45, 97, 112, 112, 108, 105, 101, 100, 45, 99, 111, 110, 102, 105, 103, 117, 114, 97, 116, 105, 111, 110]

theorem ret_str {a b : ByteArray} (h : a = b) : Ending.returned (.string a) = .returned (.string b) := by rw [h]

/-- Is this string the annotation's key? -/
def isKey (s : ByteArray) : Bool := s.toList == keyL

/-- The value of the last pair whose key is the annotation's, else d. -/
def look : List (ByteArray × ByteArray) → ByteArray → ByteArray
  | [], d => d
  | p :: r, d => look r (if isKey p.1 then p.2 else d)

/-- What the map of the pairs holds at the annotation's key. -/
def lookV : List (ByteArray × ByteArray) → Value → Value
  | [], d => d
  | p :: r, d => lookV r (if isKey p.1 then .iface 9 (.string p.2) else d)

/-- The string in an interface value, else the empty one. -/
def textOf : Value → ByteArray
  | .iface 9 (.string s) => s
  | _ => ByteArray.empty

/-- What is found where a number is stored behind the pairs at the key k. -/
def lookInt (ps : List (ByteArray × ByteArray)) (k : ByteArray) : ByteArray := if isKey k then ByteArray.empty else look ps ByteArray.empty

theorem look_snoc (ps : List (ByteArray × ByteArray)) (p : ByteArray × ByteArray) (d : ByteArray) : look (ps ++ [p]) d = if isKey p.1 then p.2 else look ps d := by
  induction ps generalizing d with
  | nil => rfl
  | cons q r ih => exact ih _

theorem lookV_snoc (ps : List (ByteArray × ByteArray)) (p : ByteArray × ByteArray) (d : Value) : lookV (ps ++ [p]) d = if isKey p.1 then .iface 9 (.string p.2) else lookV ps d := by
  induction ps generalizing d with
  | nil => rfl
  | cons q r ih => exact ih _

theorem textOf_lookV (ps : List (ByteArray × ByteArray)) (d : Value) : textOf (lookV ps d) = look ps (textOf d) := by
  induction ps generalizing d with
  | nil => rfl
  | cons q r ih =>
    show textOf (lookV r _) = look r _
    rw [ih]
    congr 1
    split <;> rfl

/-- An interface value that is nil or holds a string or an int64. -/
def Held (v : Value) : Prop := v = .nilIface ∨ (∃ s, v = .iface 9 (.string s)) ∨ ∃ n, v = .iface 2 (.int .i64 n)

theorem held_lookV (ps : List (ByteArray × ByteArray)) (d : Value) (h : Held d) : Held (lookV ps d) := by
  induction ps generalizing d with
  | nil => exact h
  | cons q r ih =>
    apply ih
    split
    · exact Or.inr (Or.inl ⟨_, rfl⟩)
    · exact h

theorem take_zip (s0 s1 : List ByteArray) (j n : Nat) (h0 : s0.length = n) (h1 : s1.length = n) (hj : j < n) :
    (s0.zip s1).take (j + 1) = (s0.zip s1).take j ++ [(s0.getD j ByteArray.empty, s1.getD j ByteArray.empty)] := by
  have hz : j < (s0.zip s1).length := by simp; omega
  rw [List.take_succ_eq_append_getElem hz]
  have a0 : j < s0.length := by omega
  have a1 : j < s1.length := by omega
  simp [a0, a1]

theorem zip_snoc (s0 s1 : List ByteArray) (h : s0.length = s1.length) (k x : ByteArray) : (s0 ++ [k]).zip (s1 ++ [x]) = s0.zip s1 ++ [(k, x)] := by
  rw [List.zip_append h]
  rfl

theorem take_zip_all (s0 s1 : List ByteArray) (j n : Nat) (h0 : s0.length = n) (hj : ¬ j < n) : (s0.zip s1).take j = s0.zip s1 := by
  apply List.take_of_length_le
  simp
  omega

end Go.Proofs.Qxb6615993a
