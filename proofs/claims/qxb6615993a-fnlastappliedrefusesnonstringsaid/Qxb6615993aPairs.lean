/- lastApplied, ZZlastAppliedPairs, ZZlastAppliedPairsThenInt. -/
import Derived.Test.Qxb6615993aPlain
namespace Go.Proofs.Qxb6615993a
open Go.RowKit
open Go.Maps (Keyed string_keyed atKey_put_same atKey_put_other)
open Go.WideMaps (keyOf_string_mk)

/-- How an element of 'map[string]any' reads here: as itself. -/
def rawElem (v : Value) : Option (DataW Value × List MemPlace) := some (.held v, [])

theorem law : Keyed Try.prog 9 := string_keyed Try.underlying9
theorem zero20 (w : World) : (zeroValue 20).run Try.prog w = .ok .nilIface w := by kernel_rfl

/-- Block b is a map that holds v at the annotation's key (nil where it has none). -/
def KeyMap (w : World) (b n : Nat) (v : Value) : Prop :=
  ∃ D : DataW Value, w.ownsMap Try.prog 9 rawElem b n D ∧ D.atKey (.string keyL) (.held .nilIface) = .held v

theorem assert_held (u : Value) (hu : Held u) : ∃ ok : Bool, ∀ w, (Instr.typeAssert u 20 9 true).run Try.prog w = .ok (.tuple #[.string (textOf u), .bool ok]) w := by
  rcases hu with rfl | ⟨s, rfl⟩ | ⟨n, rfl⟩
  · exact ⟨false, fun w => by kernel_rfl⟩
  · exact ⟨true, fun w => by kernel_rfl⟩
  · exact ⟨false, fun w => by kernel_rfl⟩

set_option maxHeartbeats 400000 in
theorem lastApplied17 (b n : Nat) (v : Value) (w : World) (h : KeyMap w b n v) (hv : Held v) :
    Calls Try.prog 17 #[.map (some b)] w fun e w' => e = .returned (.string (textOf v)) ∧ w' = w := by
  obtain ⟨D, hown, hat⟩ := h
  obtain ⟨u, ps, hrun, hu⟩ := hown.lookup law Try.underlying32 (zero20 w) (zd := .held .nilIface) (zp := []) rfl (key := .string ⟨keyL.toArray⟩) (kl := .string keyL) (keyOf_string_mk Try.underlying9 (by unfold maxLen; decide))
  rw [hat] at hu
  obtain rfl : u = v := by simpa [rawElem] using congrArg (Option.map Prod.fst) hu
  unfold keyL at hrun
  obtain ⟨ok, hta⟩ := assert_held u hv
  clear hat hu hown
  go_enter Try.func17, Try.ntmps17
  go_wp2
  go_ret
  exact ⟨rfl, rfl⟩

/-- A store of a pair. -/
theorem KeyMap.put {w : World} {b n : Nat} {v : Value} (h : KeyMap w b n v) (hn : n < maxLen) (k : ByteArray) (hk : k.size ≤ maxLen) (x : Value) :
    ∃ w', (Instr.mapUpdate 32 (.map (some b)) (.string k) x).run Try.prog w = .ok () w' ∧ KeyMap w' b (n + 1) (if isKey k then x else v) ∧ w.grownBy w' (some b) := by
  obtain ⟨D, hown, hat⟩ := h
  obtain ⟨w', hrun, hown', hg⟩ := hown.update law Try.underlying32 hn (val := x) (d := .held x) (ps := []) (keyOf_string_mk Try.underlying9 hk) rfl
  refine ⟨w', hrun, ⟨_, hown', ?_⟩, hg⟩
  by_cases hy : isKey k = true
  · have e : k.data.toList = keyL := by rw [← ByteArray.toList_eq]; simpa [isKey] using hy
    rw [if_pos hy, e, atKey_put_same hown.isMap (by trivial)]
  · have e : (Lit.string keyL) ≠ .string k.data.toList := by
      intro e
      apply hy
      rw [← ByteArray.toList_eq] at e
      injection e with e
      simp [isKey, e]
    rw [if_neg hy, atKey_put_other e, hat]

theorem KeyMap.made (w : World) : KeyMap (w.alloc (.map #[] 0)) w.heap.size 0 .nilIface :=
  ⟨.map [], World.ownsMap_made w _ _ _, rfl⟩

theorem KeyMap.drew {w : World} {b n : Nat} {v : Value} (h : KeyMap w b n v) : KeyMap w.drew b n v := h

set_option maxHeartbeats 400000 in
theorem pairs9 (a0 a1 : Option Addr) (n c0 c1 : Nat) (s0 s1 : List ByteArray) (w : World)
    (h0 : StrRow w a0 n s0) (h1 : StrRow w a1 n s1) (hn : n ≤ 65537) :
    Calls Try.prog 9 #[.slice a0 n c0, .slice a1 n c1] w fun e w' => e = .returned (.string (look (s0.zip s1) ByteArray.empty)) ∧ Below w.heap.size w w' := by
  have hmm : ∀ w, (Instr.makeMap 32 (some (.int .i64 (n : Int)))).run Try.prog w = .ok (.map (some w.heap.size)) (w.alloc (.map #[] 0)) := fun w => by kernel_rfl
  go_enter Try.func9, Try.ntmps9
  go_wp2
  go_loopw [6] (fun i wr => ∃ (j : Nat), j ≤ n ∧ i = .int .i64 j ∧ KeyMap wr w.heap.size j (lookV ((s0.zip s1).take j) .nilIface) ∧ Below w.heap.size w wr) (fun i _ => n - (intOf i).toNat)
  case atStart => exact ⟨0, Nat.zero_le _, rfl, KeyMap.made w, (Below.refl _ _).alloc (Nat.le_refl _) _⟩
  case round =>
    obtain ⟨j, hj, rfl, hown, hbel⟩ := hrel
    by_cases hlt : j < n
    · have hi0 := ix (c := c0) (h0.addr j hlt) hlt
      have hi1 := ix (c := c1) (h1.addr j hlt) hlt
      have hz := take_zip s0 s1 j n h0.len h1.len hlt
      have hl := lookV_snoc ((s0.zip s1).take j) (s0.getD j ByteArray.empty, s1.getD j ByteArray.empty) .nilIface
      rw [← hz] at hl
      have hk0 := (h0.keep hbel).cells j hlt
      have hk1 := (h1.keep hbel).cells j hlt
      have hsz := h0.size_at j
      generalize s0.getD j ByteArray.empty = kk at hl hk0 hsz
      generalize s1.getD j ByteArray.empty = xx at hl hk1
      obtain ⟨w1, hrun, hown1, hg1⟩ := hown.drew.put (by unfold maxLen; omega) kk hsz (.iface 9 (.string xx))
      have hb1 : Below w.heap.size w w1 := hbel.drew.grown hg1 hbel.size (fun b hb => by cases hb; exact Nat.le_refl _)
      have HL : Hid (lookV ((s0.zip s1).take (j + 1)) .nilIface = if isKey kk then .iface 9 (.string xx) else lookV ((s0.zip s1).take j) .nilIface) := hl
      clear hl hz hown hg1 hsz hbel
      go_wp2
      go_region
      all_goals
        go_wp2
        go_roundw
        case rel => exact ⟨j + 1, by omega, by go_num, by rw [HL.out]; exact hown1, hb1⟩
        case measure => simp [intOf]; omega
    · go_wp2_with (go_at_call 17; refine (lastApplied17 _ _ _ _ hown (held_lookV _ _ (Or.inl rfl))).mono ?_; rintro e w' ⟨rfl, rfl⟩)
      go_ret
      refine ⟨?_, hbel⟩
      refine ret_str ?_
      rw [take_zip_all s0 s1 j n h0.len hlt, textOf_lookV]
      rfl

set_option maxHeartbeats 400000 in
theorem pairs16 (a0 a1 : Option Addr) (n c0 c1 : Nat) (s0 s1 : List ByteArray) (k : ByteArray) (v : Int) (w : World)
    (h0 : StrRow w a0 n s0) (h1 : StrRow w a1 n s1) (hn : n ≤ 65536) (hk : k.size ≤ maxLen) :
    Calls Try.prog 16 #[.slice a0 n c0, .slice a1 n c1, .string k, .int .i64 v] w fun e w' => e = .returned (.string (lookInt (s0.zip s1) k)) ∧ Below w.heap.size w w' := by
  have hmm : ∀ w, (Instr.makeMap 32 (some (.int .i64 ((n : Int) + 1)))).run Try.prog w = .ok (.map (some w.heap.size)) (w.alloc (.map #[] 0)) := fun w => by kernel_rfl
  go_enter Try.func16, Try.ntmps16
  go_wp2
  go_loopw [10] (fun i wr => ∃ (j : Nat), j ≤ n ∧ i = .int .i64 j ∧ KeyMap wr w.heap.size j (lookV ((s0.zip s1).take j) .nilIface) ∧ Below w.heap.size w wr) (fun i _ => n - (intOf i).toNat)
  case atStart => exact ⟨0, Nat.zero_le _, rfl, KeyMap.made w, (Below.refl _ _).alloc (Nat.le_refl _) _⟩
  case round =>
    obtain ⟨j, hj, rfl, hown, hbel⟩ := hrel
    by_cases hlt : j < n
    · have hi0 := ix (c := c0) (h0.addr j hlt) hlt
      have hi1 := ix (c := c1) (h1.addr j hlt) hlt
      have hz := take_zip s0 s1 j n h0.len h1.len hlt
      have hl := lookV_snoc ((s0.zip s1).take j) (s0.getD j ByteArray.empty, s1.getD j ByteArray.empty) .nilIface
      rw [← hz] at hl
      have hk0 := (h0.keep hbel).cells j hlt
      have hk1 := (h1.keep hbel).cells j hlt
      have hsz := h0.size_at j
      generalize s0.getD j ByteArray.empty = kk at hl hk0 hsz
      generalize s1.getD j ByteArray.empty = xx at hl hk1
      obtain ⟨w1, hrun, hown1, hg1⟩ := hown.drew.put (by unfold maxLen; omega) kk hsz (.iface 9 (.string xx))
      have hb1 : Below w.heap.size w w1 := hbel.drew.grown hg1 hbel.size (fun b hb => by cases hb; exact Nat.le_refl _)
      have HL : Hid (lookV ((s0.zip s1).take (j + 1)) .nilIface = if isKey kk then .iface 9 (.string xx) else lookV ((s0.zip s1).take j) .nilIface) := hl
      clear hl hz hown hg1 hsz hbel
      go_wp2
      go_region
      all_goals
        go_wp2
        go_roundw
        case rel => exact ⟨j + 1, by omega, by go_num, by rw [HL.out]; exact hown1, hb1⟩
        case measure => simp [intOf]; omega
    · obtain ⟨w1, hrun, hown1, hg1⟩ := hown.put (by unfold maxLen; omega) k hk (.iface 2 (.int .i64 v))
      have hb1 : Below w.heap.size w w1 := hbel.grown hg1 hbel.size (fun b hb => by cases hb; exact Nat.le_refl _)
      have hh : Held (if isKey k then .iface 2 (.int .i64 v) else lookV ((s0.zip s1).take j) .nilIface) := by
        split
        · exact Or.inr (Or.inr ⟨_, rfl⟩)
        · exact held_lookV _ _ (Or.inl rfl)
      have ht : textOf (if isKey k then .iface 2 (.int .i64 v) else lookV ((s0.zip s1).take j) .nilIface) = lookInt (s0.zip s1) k := by
        unfold lookInt
        split
        · rfl
        · rw [take_zip_all s0 s1 j n h0.len hlt, textOf_lookV]
          rfl
      generalize (if isKey k then Value.iface 2 (.int .i64 v) else lookV ((s0.zip s1).take j) .nilIface) = vv at hown1 hh ht
      have HT : Hid (textOf vv = lookInt (s0.zip s1) k) := ht
      clear ht hown hg1 hbel
      go_wp2_with (go_at_call 17; refine (lastApplied17 _ _ _ _ hown1 hh).mono ?_; rintro e w' ⟨rfl, rfl⟩)
      go_ret
      exact ⟨ret_str HT.out, hb1⟩

end Go.Proofs.Qxb6615993a
