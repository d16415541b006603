/- JobFinished. -/
import Derived.Test.Qxb6615952aCond
namespace Go.Proofs.Qxb6615952a
open Go.RowKit

def kComplete : ByteArray := ⟨#[67, 111, 109, 112, 108, 101, 116, 101]⟩
def kFailed : ByteArray := ⟨#[70, 97, 105, 108, 101, 100]⟩

/-- Condition's answer, its bool left open. -/
def Answers (b : Nat) (typ : ByteArray) (x0 x1 x2 x3 x4 x5 x6 : ByteArray) (w : World) : Prop :=
  ∀ W, Below w.heap.size w W → Calls Try.prog 19 #[.map (some b), .string typ] W fun e w' => (∃ ok : Bool, e = .returned (.tuple #[.agg #[.string x0, .string x1, .string x2, .string x3, .string x4, .string x5, .string x6], .bool ok])) ∧ Below W.heap.size W w'

def typesObj : Obj := .cells #[.string kComplete, .string kFailed] 9

theorem size2 (w : World) : ((w.alloc emptyCond).alloc typesObj).heap.size = w.heap.size + 2 := by simp

theorem fin_res {w W : World} (h : Below (w.heap.size + 2) ((w.alloc emptyCond).alloc typesObj) W) (i : Nat) (hi : i < 7) : W.cell? ⟨w.heap.size, i, none⟩ = some (.string ⟨#[]⟩) ∧ W.frozen? ⟨w.heap.size, i, none⟩ = false :=
  res_cells (((Below.refl _ _).alloc (by simp) _).trans (h.mono (by omega))) i hi

theorem fin_path {w W : World} (h : Below (w.heap.size + 2) ((w.alloc emptyCond).alloc typesObj) W) : W.cell? ⟨w.heap.size + 1, 0, none⟩ = some (.string ⟨#[67, 111, 109, 112, 108, 101, 116, 101]⟩) ∧ W.cell? ⟨w.heap.size + 1, 1, none⟩ = some (.string ⟨#[70, 97, 105, 108, 101, 100]⟩) := by
  have e1 : (w.alloc emptyCond).heap.size = w.heap.size + 1 := by simp
  have a0 := cell_new0 (w.alloc emptyCond) (.string kComplete) (.string kFailed) 9
  have a1 := cell_new1 (w.alloc emptyCond) (.string kComplete) (.string kFailed) 9
  rw [e1] at a0 a1
  exact ⟨(h.cell (by show w.heap.size + 1 < w.heap.size + 2; omega)).trans a0, (h.cell (by show w.heap.size + 1 < w.heap.size + 2; omega)).trans a1⟩

theorem fin_old {w W : World} (h : Below (w.heap.size + 2) ((w.alloc emptyCond).alloc typesObj) W) : Below w.heap.size w W :=
  (((Below.refl _ _).alloc (Nat.le_refl _) _).alloc (by simp) _).trans (h.mono (by omega))

theorem fin_next {w W W' : World} (h : Below (w.heap.size + 2) ((w.alloc emptyCond).alloc typesObj) W) (h' : Below W.heap.size W W') (o : Obj) : Below (w.heap.size + 2) ((w.alloc emptyCond).alloc typesObj) (W'.alloc o) := by
  have hs := h.size
  rw [size2] at hs
  have b1 := h.trans (h'.mono hs)
  have hs1 := b1.size
  rw [size2] at hs1
  exact b1.alloc hs1 _

set_option maxHeartbeats 1000000 in
theorem fin9_first (b : Nat) (x0 x1 x2 x3 x4 x5 x6 : ByteArray) (w : World) (h1 : Answers b kComplete x0 x1 x2 x3 x4 x5 x6 w) (ht : (x1.toList == [84, 114, 117, 101]) = true) :
    Calls Try.prog 9 #[.map (some b)] w fun e w' => e = .returned (.tuple #[.agg #[.string x0, .string x1, .string x2, .string x3, .string x4, .string x5, .string x6], .bool true]) ∧ Below w.heap.size w w' := by
  go_enter Try.func9, Try.ntmps9
  go_wp2_with fail
  go_loopw [10] (fun i wr => i = .int .i64 0 ∧ Below (w.heap.size + 2) ((w.alloc emptyCond).alloc typesObj) wr) (fun _ _ => 0)
  case atStart => exact ⟨rfl, Below.refl _ _⟩
  case round =>
    obtain ⟨rfl, hbel⟩ := hrel
    obtain ⟨p0, p1⟩ := fin_path hbel
    have hbw := fin_old hbel
    go_wp2_with fail
    refine (h1 _ hbw).mono ?_
    rintro e w1 ⟨⟨ok, rfl⟩, hb1⟩
    have hb2 := fin_next hbel hb1 (.cells #[.string x0, .string x1, .string x2, .string x3, .string x4, .string x5, .string x6] 27)
    obtain ⟨c0, f0⟩ := fin_res hb2 0 (by omega)
    obtain ⟨c1, f1⟩ := fin_res hb2 1 (by omega)
    obtain ⟨c2, f2⟩ := fin_res hb2 2 (by omega)
    obtain ⟨c3, f3⟩ := fin_res hb2 3 (by omega)
    obtain ⟨c4, f4⟩ := fin_res hb2 4 (by omega)
    obtain ⟨c5, f5⟩ := fin_res hb2 5 (by omega)
    obtain ⟨c6, f6⟩ := fin_res hb2 6 (by omega)
    have hbw2 := fin_old hb2
    clear h1 hbel hb1 hb2 hbw p0 p1
    go_wp2_with fail
    exact bodyPost_ret (v := .tuple #[.agg #[.string x0, .string x1, .string x2, .string x3, .string x4, .string x5, .string x6], .bool true]) (by simp [results, Try.results9, go_sem, c0, c1, c2, c3, c4, c5, c6]) rfl ⟨rfl, below_seven hbw2 _ _ _ _ _ _ _⟩

set_option maxHeartbeats 1000000 in
theorem fin9_second (b : Nat) (y0 y1 y2 y3 y4 y5 y6 x0 x1 x2 x3 x4 x5 x6 : ByteArray) (w : World) (h0 : Answers b kComplete y0 y1 y2 y3 y4 y5 y6 w) (hf : (y1.toList == [84, 114, 117, 101]) = false)
    (h1 : Answers b kFailed x0 x1 x2 x3 x4 x5 x6 w) (ht : (x1.toList == [84, 114, 117, 101]) = true) :
    Calls Try.prog 9 #[.map (some b)] w fun e w' => e = .returned (.tuple #[.agg #[.string x0, .string x1, .string x2, .string x3, .string x4, .string x5, .string x6], .bool true]) ∧ Below w.heap.size w w' := by
  go_enter Try.func9, Try.ntmps9
  go_wp2_with fail
  go_loopw [10] (fun i wr => (i = .int .i64 0 ∨ i = .int .i64 1) ∧ Below (w.heap.size + 2) ((w.alloc emptyCond).alloc typesObj) wr) (fun i _ => 2 - (intOf i).toNat)
  case atStart => exact ⟨Or.inl rfl, Below.refl _ _⟩
  case round =>
    obtain ⟨hi, hbel⟩ := hrel
    obtain ⟨p0, p1⟩ := fin_path hbel
    have hbw := fin_old hbel
    rcases hi with rfl | rfl
    · go_wp2_with fail
      refine (h0 _ hbw).mono ?_
      rintro e w1 ⟨⟨ok, rfl⟩, hb1⟩
      have hb2 := fin_next hbel hb1 (.cells #[.string y0, .string y1, .string y2, .string y3, .string y4, .string y5, .string y6] 27)
      clear h0 h1 hbel hb1 hbw p0 p1
      go_wp2_with fail
      go_roundw
      case rel => exact ⟨Or.inr rfl, hb2⟩
      case measure => simp [intOf]
    · go_wp2_with fail
      refine (h1 _ hbw).mono ?_
      rintro e w1 ⟨⟨ok, rfl⟩, hb1⟩
      have hb2 := fin_next hbel hb1 (.cells #[.string x0, .string x1, .string x2, .string x3, .string x4, .string x5, .string x6] 27)
      obtain ⟨c0, f0⟩ := fin_res hb2 0 (by omega)
      obtain ⟨c1, f1⟩ := fin_res hb2 1 (by omega)
      obtain ⟨c2, f2⟩ := fin_res hb2 2 (by omega)
      obtain ⟨c3, f3⟩ := fin_res hb2 3 (by omega)
      obtain ⟨c4, f4⟩ := fin_res hb2 4 (by omega)
      obtain ⟨c5, f5⟩ := fin_res hb2 5 (by omega)
      obtain ⟨c6, f6⟩ := fin_res hb2 6 (by omega)
      have hbw2 := fin_old hb2
      clear h0 h1 hbel hb1 hb2 hbw p0 p1
      go_wp2_with fail
      exact bodyPost_ret (v := .tuple #[.agg #[.string x0, .string x1, .string x2, .string x3, .string x4, .string x5, .string x6], .bool true]) (by simp [results, Try.results9, go_sem, c0, c1, c2, c3, c4, c5, c6]) rfl ⟨rfl, below_seven hbw2 _ _ _ _ _ _ _⟩

set_option maxHeartbeats 1000000 in
theorem fin9_none (b : Nat) (y0 y1 y2 y3 y4 y5 y6 x0 x1 x2 x3 x4 x5 x6 : ByteArray) (w : World) (h0 : Answers b kComplete y0 y1 y2 y3 y4 y5 y6 w) (hf : (y1.toList == [84, 114, 117, 101]) = false)
    (h1 : Answers b kFailed x0 x1 x2 x3 x4 x5 x6 w) (ht : (x1.toList == [84, 114, 117, 101]) = false) :
    Calls Try.prog 9 #[.map (some b)] w fun e w' => e = .returned (.tuple #[noCond, .bool false]) ∧ Below w.heap.size w w' := by
  go_enter Try.func9, Try.ntmps9
  go_wp2_with fail
  go_loopw [10] (fun i wr => (i = .int .i64 0 ∨ i = .int .i64 1 ∨ i = .int .i64 2) ∧ Below (w.heap.size + 2) ((w.alloc emptyCond).alloc typesObj) wr) (fun i _ => 2 - (intOf i).toNat)
  case atStart => exact ⟨Or.inl rfl, Below.refl _ _⟩
  case round =>
    obtain ⟨hi, hbel⟩ := hrel
    obtain ⟨p0, p1⟩ := fin_path hbel
    have hbw := fin_old hbel
    rcases hi with rfl | rfl | rfl
    · go_wp2_with fail
      refine (h0 _ hbw).mono ?_
      rintro e w1 ⟨⟨ok, rfl⟩, hb1⟩
      have hb2 := fin_next hbel hb1 (.cells #[.string y0, .string y1, .string y2, .string y3, .string y4, .string y5, .string y6] 27)
      clear h0 h1 hbel hb1 hbw p0 p1
      go_wp2_with fail
      go_roundw
      case rel => exact ⟨Or.inr (Or.inl rfl), hb2⟩
      case measure => simp [intOf]
    · go_wp2_with fail
      refine (h1 _ hbw).mono ?_
      rintro e w1 ⟨⟨ok, rfl⟩, hb1⟩
      have hb2 := fin_next hbel hb1 (.cells #[.string x0, .string x1, .string x2, .string x3, .string x4, .string x5, .string x6] 27)
      clear h0 h1 hbel hb1 hbw p0 p1
      go_wp2_with fail
      go_roundw
      case rel => exact ⟨Or.inr (Or.inr rfl), hb2⟩
      case measure => simp [intOf]
    · have hb2 := hbel
      obtain ⟨c0, f0⟩ := fin_res hb2 0 (by omega)
      obtain ⟨c1, f1⟩ := fin_res hb2 1 (by omega)
      obtain ⟨c2, f2⟩ := fin_res hb2 2 (by omega)
      obtain ⟨c3, f3⟩ := fin_res hb2 3 (by omega)
      obtain ⟨c4, f4⟩ := fin_res hb2 4 (by omega)
      obtain ⟨c5, f5⟩ := fin_res hb2 5 (by omega)
      obtain ⟨c6, f6⟩ := fin_res hb2 6 (by omega)
      clear h0 h1 hbel hb2 p0 p1
      go_wp2_with fail
      exact bodyPost_ret (v := .tuple #[noCond, .bool false]) (by simp [results, Try.results9, go_sem, noCond, c0, c1, c2, c3, c4, c5, c6]) rfl ⟨rfl, below_seven hbw _ _ _ _ _ _ _⟩

end Go.Proofs.Qxb6615952a
