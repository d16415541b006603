/- (Object).Condition and its closure. -/
import Derived.Test.Qxb6615952aJob
import Derived.Test.Qxb6615952aSvc
namespace Go.Proofs.Qxb6615952a
open Go.RowKit

set_option maxHeartbeats 400000 in
theorem text21 (k : ByteArray) (p : Addr) (m n : Nat) (f : List UInt8 → Option Value) (w : World) (hp : w.cell? p = some (.map (some m))) (h : Holds w m n f) (hk : k.size ≤ maxLen) (hv : Plain ((f k.toList).getD .nilIface)) :
    Calls Try.prog 21 #[.string k, .pointer (some p)] w fun e w' => e = .returned (.string (textOf ((f k.toList).getD .nilIface))) ∧ w' = w := by
  have hl := h.look 30 Try.underlying30 k hk
  obtain ⟨ok, hta⟩ := assert_plain _ hv
  generalize (f k.toList).getD .nilIface = v at hl hta ⊢
  go_enter Try.func21, Try.ntmps21
  go_wp2
  go_ret
  exact ⟨rfl, rfl⟩

theorem ta_list (l : Value) (w : World) : (Instr.typeAssert (.iface 39 l) 20 39 true).run Try.prog w = .ok (.tuple #[l, .bool true]) w := by kernel_rfl
theorem comp9 : (Try.prog.info? 9).map (fun i => i.comparable) = some true := by kernel_rfl
theorem eqIn_str (d : Nat) (s t : ByteArray) (w : World) : (Op.equalIn (d + 2) 20 (.iface 9 (.string s)) (.iface 9 (.string t))).run Try.prog w = .ok (s.toList == t.toList) w := by
  obtain ⟨i, hi, hc⟩ := Option.map_eq_some_iff.1 comp9
  have h := run_equalIn_string (P := Try.prog) w d 9 s t Try.underlying9
  rw [Op.equalIn]
  simp [run_underlying Try.underlying20, typeInfo, hi, hc, h]
theorem neq_str (s t : ByteArray) (w : World) : (binOp .neq 20 (.iface 9 (.string s)) (.iface 9 (.string t))).run Try.prog w = .ok (.bool (!(s.toList == t.toList))) w := by
  simp only [binOp]
  simp [Op.equal, Op.maxDepth, eqIn_str 9998 s t w]

/-- The element of the list at i: its box and its map. -/
theorem ListIs.at {W : World} {L n : Nat} {s0 s1 s2 : List ByteArray} (h : ListIs W L n n s0 s1 s2) {i : Nat} (hi : i < n) :
    ∃ m n' f, W.cell? ⟨L, i, none⟩ = some (.iface 30 (.map (some m))) ∧ Holds W m n' f ∧ CondF f (s0.getD i ByteArray.empty) (s1.getD i ByteArray.empty) (s2.getD i ByteArray.empty) := by
  obtain ⟨C, hC, hCs, hel⟩ := h
  obtain ⟨m, hm, n', f, hh, hf⟩ := hel i hi
  exact ⟨m, n', f, by simp [World.cell?, hC, hm], hh, hf⟩

def emptyCond : Obj := .cells #[.string ⟨#[]⟩, .string ⟨#[]⟩, .string ⟨#[]⟩, .string ⟨#[]⟩, .string ⟨#[]⟩, .string ⟨#[]⟩, .string ⟨#[]⟩] 27

/-- The two answers of Condition. -/
def noCond : Value := .agg #[.string ⟨#[]⟩, .string ⟨#[]⟩, .string ⟨#[]⟩, .string ⟨#[]⟩, .string ⟨#[]⟩, .string ⟨#[]⟩, .string ⟨#[]⟩]
def condV (typ s r : ByteArray) : Value := .agg #[.string typ, .string s, .string ⟨#[]⟩, .string ⟨#[]⟩, .string ⟨#[]⟩, .string r, .string ⟨#[]⟩]

/-- The cells of the result's block, as long as nothing below it has turned. -/
theorem res_cells {w W : World} (h : Below (w.heap.size + 1) (w.alloc emptyCond) W) (i : Nat) (hi : i < 7) : W.cell? ⟨w.heap.size, i, none⟩ = some (.string ⟨#[]⟩) ∧ W.frozen? ⟨w.heap.size, i, none⟩ = false := by
  have hblk : W.heap[w.heap.size]? = some emptyCond := (h.block w.heap.size (by omega)).trans (MapKept.heap_alloc w _).1
  constructor
  · rcases i with _ | _ | _ | _ | _ | _ | _ | i
    all_goals first | omega | simp [World.cell?, hblk, emptyCond]
  · simp [World.frozen?, hblk, emptyCond]

theorem below_seven {w W : World} (h : Below w.heap.size w W) (x0 x1 x2 x3 x4 x5 x6 : Value) :
    Below w.heap.size w (((((((W.setCell ⟨w.heap.size, 0, none⟩ x0).setCell ⟨w.heap.size, 1, none⟩ x1).setCell ⟨w.heap.size, 2, none⟩ x2).setCell ⟨w.heap.size, 3, none⟩ x3).setCell ⟨w.heap.size, 4, none⟩ x4).setCell ⟨w.heap.size, 5, none⟩ x5).setCell ⟨w.heap.size, 6, none⟩ x6) :=
  ((((((h.setCell (Nat.le_refl _) _).setCell (Nat.le_refl _) _).setCell (Nat.le_refl _) _).setCell (Nat.le_refl _) _).setCell (Nat.le_refl _) _).setCell (Nat.le_refl _) _).setCell (Nat.le_refl _) _

set_option maxHeartbeats 1000000 in
theorem cond19_miss (b n : Nat) (s0 s1 s2 : List ByteArray) (typ : ByteArray) (w : World) (h : JobIs w b n s0 s1 s2) (hn : n ≤ 65536) (hno : ∀ i, i < n → ((s0.getD i ByteArray.empty).toList == typ.toList) = false) :
    Calls Try.prog 19 #[.map (some b), .string typ] w fun e w' => e = .returned (.tuple #[noCond, .bool false]) ∧ Below w.heap.size w w' := by
  obtain ⟨L, hpath, hlist⟩ := h
  have hta := ta_list (.slice (some ⟨L, 0, none⟩) n n)
  go_enter Try.func19, Try.ntmps19
  go_wp2_with fail
  have e1 : (w.alloc emptyCond).heap.size = w.heap.size + 1 := by simp
  refine (field20 b (w.heap.size + 1) kStatus kConds (.iface 39 (.slice (some ⟨L, 0, none⟩) n n)) _ ((hpath.alloc emptyCond).alloc _) (by rw [← e1]; exact cell_new0 _ _ _ _) (by rw [← e1]; exact cell_new1 _ _ _ _) (by decide) (by decide)).mono ?_
  rintro e w' ⟨⟨ok', rfl⟩, hw⟩
  cases hw.symm
  go_wp2_with fail
  clear hta
  go_loopw [28] (fun i wr => ∃ j : Nat, j ≤ n ∧ i = .int .i64 j ∧ Below (w.heap.size + 1) (w.alloc emptyCond) wr) (fun i _ => n - (intOf i).toNat)
  case atStart => exact ⟨0, Nat.zero_le _, rfl, (Below.refl _ _).alloc (Nat.le_of_eq e1.symm) _⟩
  case round =>
    obtain ⟨j, hj, rfl, hbel⟩ := hrel
    have hbw : Below w.heap.size w wr := ((Below.refl _ _).alloc (Nat.le_refl _) _).trans (hbel.mono (by omega))
    by_cases hlt : j < n
    · obtain ⟨m, n', f, hcell, hh, hcf⟩ := (hlist.below hbw).at hlt
      have hl := (hh.alloc (.cells #[.map (some m)] 30)).look 30 Try.underlying30 kType (by decide)
      rw [hcf.1] at hl
      simp only [Option.getD_some] at hl
      unfold kType at hl
      have hnj := hno j hlt
      have hq := neq_str (s0.getD j ByteArray.empty) typ
      rw [hnj] at hq
      generalize s0.getD j ByteArray.empty = t at hl hnj hq
      have htm := ta_map (some m)
      have hb2 := hbel.alloc (by rw [← e1]; exact hbel.size) (.cells #[.map (some m)] 30)
      clear hno hh hcf hlist hpath hnj hbel hbw
      go_wp2
      go_roundw
      case rel => exact ⟨j + 1, by omega, by go_num, hb2⟩
      case measure => simp [intOf]; omega
    · obtain ⟨c0, f0⟩ := res_cells hbel 0 (by omega)
      obtain ⟨c1, f1⟩ := res_cells hbel 1 (by omega)
      obtain ⟨c2, f2⟩ := res_cells hbel 2 (by omega)
      obtain ⟨c3, f3⟩ := res_cells hbel 3 (by omega)
      obtain ⟨c4, f4⟩ := res_cells hbel 4 (by omega)
      obtain ⟨c5, f5⟩ := res_cells hbel 5 (by omega)
      obtain ⟨c6, f6⟩ := res_cells hbel 6 (by omega)
      clear hno hlist hpath hbel
      go_wp2
      refine bodyPost_ret (v := .tuple #[noCond, .bool false]) (by simp [results, Try.results19, go_sem, noCond, c0, c1, c2, c3, c4, c5, c6]) rfl ⟨rfl, below_seven hbw _ _ _ _ _ _ _⟩

/-- What the closure answers at a key. -/
theorem text_some {f : List UInt8 → Option Value} {k s : ByteArray} (h : f k.toList = some (.iface 9 (.string s))) : Plain ((f k.toList).getD .nilIface) ∧ textOf ((f k.toList).getD .nilIface) = s := by
  rw [h]
  exact ⟨Or.inr (Or.inl ⟨s, rfl⟩), rfl⟩
theorem text_none {f : List UInt8 → Option Value} {k : ByteArray} (h : f k.toList = none) : Plain ((f k.toList).getD .nilIface) ∧ textOf ((f k.toList).getD .nilIface) = ByteArray.empty := by
  rw [h]
  exact ⟨Or.inl rfl, rfl⟩

theorem text21_some (k s : ByteArray) (p : Addr) (m n : Nat) (f : List UInt8 → Option Value) (w : World) (hp : w.cell? p = some (.map (some m))) (h : Holds w m n f) (hk : k.size ≤ maxLen) (hf : f k.toList = some (.iface 9 (.string s))) :
    Calls Try.prog 21 #[.string k, .pointer (some p)] w fun e w' => e = .returned (.string s) ∧ w' = w := by
  have t := text21 k p m n f w hp h hk (text_some hf).1
  rw [(text_some hf).2] at t
  exact t
theorem text21_none (k : ByteArray) (p : Addr) (m n : Nat) (f : List UInt8 → Option Value) (w : World) (hp : w.cell? p = some (.map (some m))) (h : Holds w m n f) (hk : k.size ≤ maxLen) (hf : f k.toList = none) :
    Calls Try.prog 21 #[.string k, .pointer (some p)] w fun e w' => e = .returned (.string ⟨#[]⟩) ∧ w' = w := by
  have t := text21 k p m n f w hp h hk (text_none hf).1
  rw [(text_none hf).2] at t
  exact t

theorem cell_one (w : World) (x : Value) (t : TypeId) : (w.alloc (.cells #[x] t)).cell? ⟨w.heap.size, 0, none⟩ = some x := by
  rw [World.cell?_alloc_at _ _ _ _ rfl]
  rfl

set_option maxHeartbeats 1000000 in
theorem cond19_hit (b n : Nat) (s0 s1 s2 : List ByteArray) (typ : ByteArray) (w : World) (h : JobIs w b n s0 s1 s2) (hn : n ≤ 65536) (k : Nat) (hk : k < n) (hno : ∀ i, i < k → ((s0.getD i ByteArray.empty).toList == typ.toList) = false) (hyes : ((s0.getD k ByteArray.empty).toList == typ.toList) = true) :
    Calls Try.prog 19 #[.map (some b), .string typ] w fun e w' => e = .returned (.tuple #[condV typ (s1.getD k ByteArray.empty) (s2.getD k ByteArray.empty), .bool true]) ∧ Below w.heap.size w w' := by
  obtain ⟨L, hpath, hlist⟩ := h
  have hta := ta_list (.slice (some ⟨L, 0, none⟩) n n)
  go_enter Try.func19, Try.ntmps19
  go_wp2_with fail
  have e1 : (w.alloc emptyCond).heap.size = w.heap.size + 1 := by simp
  refine (field20 b (w.heap.size + 1) kStatus kConds (.iface 39 (.slice (some ⟨L, 0, none⟩) n n)) _ ((hpath.alloc emptyCond).alloc _) (by rw [← e1]; exact cell_new0 _ _ _ _) (by rw [← e1]; exact cell_new1 _ _ _ _) (by decide) (by decide)).mono ?_
  rintro e w' ⟨⟨ok', rfl⟩, hw⟩
  cases hw.symm
  go_wp2_with fail
  clear hta
  go_loopw [28] (fun i wr => ∃ j : Nat, j ≤ k ∧ i = .int .i64 j ∧ Below (w.heap.size + 1) (w.alloc emptyCond) wr) (fun i _ => n - (intOf i).toNat)
  case atStart => exact ⟨0, Nat.zero_le _, rfl, (Below.refl _ _).alloc (Nat.le_of_eq e1.symm) _⟩
  case round =>
    obtain ⟨j, hj, rfl, hbel⟩ := hrel
    have hbw : Below w.heap.size w wr := ((Below.refl _ _).alloc (Nat.le_refl _) _).trans (hbel.mono (by omega))
    have hlt : j < n := by omega
    obtain ⟨m, n', f, hcell, hh, hcf⟩ := (hlist.below hbw).at hlt
    have hl := (hh.alloc (.cells #[.map (some m)] 30)).look 30 Try.underlying30 kType (by decide)
    rw [hcf.1] at hl
    simp only [Option.getD_some] at hl
    unfold kType at hl
    have hq := neq_str (s0.getD j ByteArray.empty) typ
    have htm := ta_map (some m)
    have hb2 := hbel.alloc (by rw [← e1]; exact hbel.size) (.cells #[.map (some m)] 30)
    by_cases hjk : j < k
    · have hnj := hno j hjk
      rw [hnj] at hq
      generalize s0.getD j ByteArray.empty = t at hl hnj hq
      clear hno hyes hh hcf hlist hpath hnj hbel hbw
      go_wp2
      go_roundw
      case rel => exact ⟨j + 1, by omega, by go_num, hb2⟩
      case measure => simp [intOf]; omega
    · have e2 : k = j := by omega
      subst e2
      rw [hyes] at hq
      obtain ⟨c0, f0⟩ := res_cells hb2 0 (by omega)
      obtain ⟨c1, f1⟩ := res_cells hb2 1 (by omega)
      obtain ⟨c2, f2⟩ := res_cells hb2 2 (by omega)
      obtain ⟨c3, f3⟩ := res_cells hb2 3 (by omega)
      obtain ⟨c4, f4⟩ := res_cells hb2 4 (by omega)
      obtain ⟨c5, f5⟩ := res_cells hb2 5 (by omega)
      obtain ⟨c6, f6⟩ := res_cells hb2 6 (by omega)
      have hbw2 := hbw.alloc hbw.size (.cells #[.map (some m)] 30)
      have hh2 := hh.alloc (.cells #[.map (some m)] 30)
      obtain ⟨_, q1, q2, q3, q4, q5, q6⟩ := hcf
      generalize s0.getD k ByteArray.empty = t at hl hq hyes
      obtain ⟨s, hs⟩ : ∃ s, s = s1.getD k ByteArray.empty := ⟨_, rfl⟩
      obtain ⟨r, hr⟩ : ∃ r, r = s2.getD k ByteArray.empty := ⟨_, rfl⟩
      rw [← hs] at q1
      rw [← hr] at q2
      have HS : Hid (s = s1.getD k ByteArray.empty ∧ r = s2.getD k ByteArray.empty) := ⟨hs, hr⟩
      clear hs hr
      have hp := cell_one wr (.map (some m)) 30
      clear hno hyes hlist hpath hbel hb2 hbw hh
      go_wp2_with fail
      refine (text21_some kStatus s _ m n' f _ hp hh2 (by decide) q1).mono ?_
      rintro e w2 ⟨rfl, hw2⟩
      cases hw2.symm
      go_wp2_with fail
      refine (text21_none kHeart _ m n' f _ hp hh2 (by decide) q3).mono ?_
      rintro e w2 ⟨rfl, hw2⟩
      cases hw2.symm
      go_wp2_with fail
      refine (text21_none kUpdate _ m n' f _ hp hh2 (by decide) q4).mono ?_
      rintro e w2 ⟨rfl, hw2⟩
      cases hw2.symm
      go_wp2_with fail
      refine (text21_none kTrans _ m n' f _ hp hh2 (by decide) q5).mono ?_
      rintro e w2 ⟨rfl, hw2⟩
      cases hw2.symm
      go_wp2_with fail
      refine (text21_some kReason r _ m n' f _ hp hh2 (by decide) q2).mono ?_
      rintro e w2 ⟨rfl, hw2⟩
      cases hw2.symm
      go_wp2_with fail
      refine (text21_none kMsg _ m n' f _ hp hh2 (by decide) q6).mono ?_
      rintro e w2 ⟨rfl, hw2⟩
      cases hw2.symm
      go_wp2_with fail
      exact bodyPost_ret (v := .tuple #[condV typ s r, .bool true]) (by simp [results, Try.results19, go_sem, condV, c0, c1, c2, c3, c4, c5, c6]) rfl ⟨by rw [HS.out.1, HS.out.2], below_seven hbw2 _ _ _ _ _ _ _⟩

end Go.Proofs.Qxb6615952a
