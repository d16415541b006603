/- ClusterIP, the four builders of a Service, and the law's walk. -/
import Derived.Test.Qxb6615952aField
namespace Go.Proofs.Qxb6615952a
open Go.RowKit

def kName : ByteArray := ⟨#[110, 97, 109, 101]⟩
def kMeta : ByteArray := ⟨#[109, 101, 116, 97, 100, 97, 116, 97]⟩
def kSpec : ByteArray := ⟨#[115, 112, 101, 99]⟩
def kClusterIP : ByteArray := ⟨#[99, 108, 117, 115, 116, 101, 114, 73, 80]⟩
def kExternal : ByteArray := ⟨#[101, 120, 116, 101, 114, 110, 97, 108, 78, 97, 109, 101]⟩

/-- The string in an interface value, else the empty one. -/
def textOf : Value → ByteArray
  | .iface 9 (.string s) => s
  | _ => ByteArray.empty

/-- An interface value that is nil or holds a string or a json.Number. -/
def Plain (v : Value) : Prop := v = .nilIface ∨ (∃ s, v = .iface 9 (.string s)) ∨ ∃ s, v = .iface 40 (.string s)

theorem assert_plain (u : Value) (hu : Plain u) : ∃ ok : Bool, ∀ w, (Instr.typeAssert u 20 9 true).run Try.prog w = .ok (.tuple #[.string (textOf u), .bool ok]) w := by
  rcases hu with rfl | ⟨s, rfl⟩ | ⟨n, rfl⟩
  · exact ⟨false, fun w => by kernel_rfl⟩
  · exact ⟨true, fun w => by kernel_rfl⟩
  · exact ⟨false, fun w => by kernel_rfl⟩

theorem Path2.alloc {w : World} {b : Nat} {k1 k2 : ByteArray} {v : Value} (h : Path2 w b k1 k2 v) (o : Obj) : Path2 (w.alloc o) b k1 k2 v := by
  obtain ⟨n, f, hh, ⟨m, n', g, hf, hg, hv⟩ | ⟨s, hf, hv⟩⟩ := h
  · exact ⟨n, f, hh.alloc o, Or.inl ⟨m, n', g, hf, hg.alloc o, hv⟩⟩
  · exact ⟨n, f, hh.alloc o, Or.inr ⟨s, hf, hv⟩⟩

theorem cell_new0 (w : World) (x y : Value) (t : TypeId) : (w.alloc (.cells #[x, y] t)).cell? ⟨w.heap.size, 0, none⟩ = some x := by
  rw [World.cell?_alloc_at _ _ _ _ rfl]
  rfl
theorem cell_new1 (w : World) (x y : Value) (t : TypeId) : (w.alloc (.cells #[x, y] t)).cell? ⟨w.heap.size, 1, none⟩ = some y := by
  rw [World.cell?_alloc_at _ _ _ _ rfl]
  rfl

set_option maxHeartbeats 400000 in
theorem cip18 (b : Nat) (v : Value) (w : World) (h : Path2 w b kSpec kClusterIP v) (hv : Plain v) :
    Calls Try.prog 18 #[.map (some b)] w fun e w' => e = .returned (.string (textOf v)) ∧ Below w.heap.size w w' := by
  obtain ⟨ok, hta⟩ := assert_plain v hv
  go_enter Try.func18, Try.ntmps18
  go_wp2_with fail
  refine (field20 b w.heap.size kSpec kClusterIP v _ (h.alloc _) (cell_new0 _ _ _ _) (cell_new1 _ _ _ _) (by decide) (by decide)).mono ?_
  rintro e w' ⟨⟨ok', rfl⟩, hw⟩
  cases hw.symm
  go_wp2
  go_ret
  exact ⟨rfl, (Below.refl _ _).alloc (Nat.le_refl _) _⟩

/-- What a builder hands back: a Service below whose spec.clusterIP lies v. -/
def Made (w : World) (v : Value) (e : Ending) (w' : World) : Prop := ∃ b, e = .returned (.map (some b)) ∧ Path2 w' b kSpec kClusterIP v ∧ Below w.heap.size w w'

theorem Holds.next {w : World} : Holds ((w.alloc (.map #[] 0)).alloc (.map #[] 0)) (w.heap.size + 1) 0 (fun _ => none) := by
  have h := Holds.made (w.alloc (.map #[] 0))
  rwa [show (w.alloc (.map #[] 0)).heap.size = w.heap.size + 1 by simp] at h

/-- The common part: the map of the whole, the map of the metadata. -/
theorem build_meta (name : ByteArray) (w : World) : ∃ w1 w2,
    (Instr.mapUpdate 30 (.map (some (w.heap.size + 1))) (.string kName) (.iface 9 (.string name))).run Try.prog ((w.alloc (.map #[] 0)).alloc (.map #[] 0)) = .ok () w1 ∧
    (Instr.mapUpdate 31 (.map (some w.heap.size)) (.string kMeta) (.iface 30 (.map (some (w.heap.size + 1))))).run Try.prog w1 = .ok () w2 ∧
    (∃ f, Holds w2 w.heap.size 1 f) ∧ Below w.heap.size w w2 := by
  obtain ⟨w1, r1, h6, g1⟩ := (Holds.next (w := w)).put 30 Try.underlying30 (by unfold maxLen; omega) kName (by decide) (.iface 9 (.string name))
  obtain ⟨w2, r2, h5, g2⟩ := (((Holds.made w).alloc (.map #[] 0)).kept g1 (by simp)).put 31 Try.underlying31 (by unfold maxLen; omega) kMeta (by decide) (.iface 30 (.map (some (w.heap.size + 1))))
  refine ⟨w1, w2, r1, r2, ⟨_, h5⟩, ?_⟩
  have b1 : Below w.heap.size w ((w.alloc (.map #[] 0)).alloc (.map #[] 0)) := ((Below.refl _ _).alloc (Nat.le_refl _) _).alloc (by simp) _
  have b2 := b1.grown g1 b1.size (fun k hk => by cases hk; omega)
  exact b2.grown g2 b2.size (fun k hk => by cases hk; omega)

/-- The spec is a map with one entry. -/
theorem build_spec (w w2 : World) (f : List UInt8 → Option Value) (h : Holds w2 w.heap.size 1 f) (hb : Below w.heap.size w w2) (hlt : w.heap.size < w2.heap.size) (kk : ByteArray) (hkk : kk.size ≤ maxLen) (x : Value) : ∃ w3 w4,
    (Instr.mapUpdate 30 (.map (some w2.heap.size)) (.string kk) x).run Try.prog (w2.alloc (.map #[] 0)) = .ok () w3 ∧
    (Instr.mapUpdate 31 (.map (some w.heap.size)) (.string kSpec) (.iface 30 (.map (some w2.heap.size)))).run Try.prog w3 = .ok () w4 ∧
    Path2 w4 w.heap.size kSpec kClusterIP (if kClusterIP.toList = kk.toList then x else .nilIface) ∧ Below w.heap.size w w4 := by
  obtain ⟨w3, r3, h11, g3⟩ := (Holds.made w2).put 30 Try.underlying30 (by unfold maxLen; omega) kk hkk x
  obtain ⟨w4, r4, h5, g4⟩ := ((h.alloc (.map #[] 0)).kept g3 (by simp; omega)).put 31 Try.underlying31 (by unfold maxLen; omega) kSpec (by decide) (.iface 30 (.map (some w2.heap.size)))
  have h11' := h11.kept g4 (by simp; omega)
  refine ⟨w3, w4, r3, r4, ⟨_, _, h5, Or.inl ⟨_, _, _, by simp [upd], h11', ?_⟩⟩, ?_⟩
  · unfold upd
    split <;> rfl
  · have b1 : Below w.heap.size w (w2.alloc (.map #[] 0)) := hb.alloc hb.size _
    have b2 := b1.grown g3 b1.size (fun k hk => by cases hk; omega)
    exact b2.grown g4 b2.size (fun k hk => by cases hk; omega)

/-- The spec is a text. -/
theorem build_text (w w2 : World) (f : List UInt8 → Option Value) (h : Holds w2 w.heap.size 1 f) (hb : Below w.heap.size w w2) (s : ByteArray) : ∃ w4,
    (Instr.mapUpdate 31 (.map (some w.heap.size)) (.string kSpec) (.iface 9 (.string s))).run Try.prog w2 = .ok () w4 ∧
    Path2 w4 w.heap.size kSpec kClusterIP .nilIface ∧ Below w.heap.size w w4 := by
  obtain ⟨w4, r4, h5, g4⟩ := h.put 31 Try.underlying31 (by unfold maxLen; omega) kSpec (by decide) (.iface 9 (.string s))
  exact ⟨w4, r4, ⟨_, _, h5, Or.inr ⟨s, by simp [upd], rfl⟩⟩, hb.grown g4 hb.size (fun k hk => by cases hk; omega)⟩

set_option maxHeartbeats 400000 in
theorem with14 (name ip : ByteArray) (w : World) : Calls Try.prog 14 #[.string name, .string ip] w fun e w' => Made w (.iface 9 (.string ip)) e w' := by
  have hmm := @run_makeMap Try.prog
  obtain ⟨w1, w2, r1, r2, ⟨f, h⟩, hb⟩ := build_meta name w
  obtain ⟨w3, w4, r3, r4, hp, hb4⟩ := build_spec w w2 f h hb h.lt kClusterIP (by decide) (.iface 9 (.string ip))
  rw [if_pos rfl] at hp
  unfold kName at r1
  unfold kMeta at r2
  unfold kClusterIP at r3
  unfold kSpec at r4
  clear h hb
  go_enter Try.func14, Try.ntmps14
  go_wp2
  go_ret
  exact ⟨_, rfl, hp, hb4⟩

set_option maxHeartbeats 400000 in
theorem number15 (name ip : ByteArray) (w : World) : Calls Try.prog 15 #[.string name, .string ip] w fun e w' => Made w (.iface 40 (.string ip)) e w' := by
  have hmm := @run_makeMap Try.prog
  obtain ⟨w1, w2, r1, r2, ⟨f, h⟩, hb⟩ := build_meta name w
  obtain ⟨w3, w4, r3, r4, hp, hb4⟩ := build_spec w w2 f h hb h.lt kClusterIP (by decide) (.iface 40 (.string ip))
  rw [if_pos rfl] at hp
  unfold kName at r1
  unfold kMeta at r2
  unfold kClusterIP at r3
  unfold kSpec at r4
  clear h hb
  go_enter Try.func15, Try.ntmps15
  go_wp2
  go_ret
  exact ⟨_, rfl, hp, hb4⟩

set_option maxHeartbeats 400000 in
theorem text16 (name ip : ByteArray) (w : World) : Calls Try.prog 16 #[.string name, .string ip] w fun e w' => Made w .nilIface e w' := by
  have hmm := @run_makeMap Try.prog
  obtain ⟨w1, w2, r1, r2, ⟨f, h⟩, hb⟩ := build_meta name w
  obtain ⟨w4, r4, hp, hb4⟩ := build_text w w2 f h hb ip
  unfold kName at r1
  unfold kMeta at r2
  unfold kSpec at r4
  clear h hb
  go_enter Try.func16, Try.ntmps16
  go_wp2
  go_ret
  exact ⟨_, rfl, hp, hb4⟩

set_option maxHeartbeats 400000 in
theorem without17 (name ip : ByteArray) (w : World) : Calls Try.prog 17 #[.string name, .string ip] w fun e w' => Made w .nilIface e w' := by
  have hmm := @run_makeMap Try.prog
  obtain ⟨w1, w2, r1, r2, ⟨f, h⟩, hb⟩ := build_meta name w
  obtain ⟨w3, w4, r3, r4, hp, hb4⟩ := build_spec w w2 f h hb h.lt kExternal (by decide) (.iface 9 (.string ip))
  rw [if_neg (by rw [ByteArray.toList_eq, ByteArray.toList_eq]; decide)] at hp
  unfold kName at r1
  unfold kMeta at r2
  unfold kExternal at r3
  unfold kSpec at r4
  clear h hb
  go_enter Try.func17, Try.ntmps17
  go_wp2
  go_ret
  exact ⟨_, rfl, hp, hb4⟩

end Go.Proofs.Qxb6615952a
