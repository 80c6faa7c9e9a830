/-
  THE WALKS: cloneBytes, cloneStrings.
-/
import Derived.Test.Qxb6600826aWalkE
namespace Go.Proofs.Qxb6600826a
open Go.RowKit
set_option linter.unusedSimpArgs false
set_option linter.unusedVariables false

theorem info9 : (Try.prog.info? 9).map (fun i => (i.zero, i.size, i.bytes)) = some (some (.string ByteArray.empty), 1, 16) := by kernel_rfl

set_option maxHeartbeats 1000000 in
theorem cloneB_any (b off n cap : Nat) (d : List Int) (w : World) (hn : d.length = n) (hN : n ≤ 1099511627776) (hpos : 0 < n) (hc : ∀ j, j < n → w.cell? ⟨b, off + j, none⟩ = some (Value.int .u8 (d.getD j 0))) :
    Calls Try.prog 17 #[.slice (some ⟨b, off, none⟩) n cap] w fun e w' => e = .returned (.slice (some ⟨w.heap.size, 0, none⟩) n n) ∧ Below w.heap.size w w' ∧ w.heap.size < w'.heap.size ∧
      ∀ j, j < n → w'.cell? ⟨w.heap.size, j, none⟩ = some (Value.int .u8 (d.getD j 0)) := by
  have q : ∀ (w : World) (a : Option Addr) (n c n' c' : Nat), (binOp .eql 27 (.slice a n c) (.slice none n' c')).run Try.prog w = .ok (.bool a.isNone) w := fun w a n c n' c' => Lib.run_eql_slice_nil w _ _ a n c n' c' Try.underlying27
  obtain ⟨i0, hi, hz0, hz1, hz2⟩ := info_parts info5
  have HC : Hid (∀ j, j < n → w.cell? ⟨b, off + j, none⟩ = some (Value.int .u8 (d.getD j 0))) := hc
  have hb : b < w.heap.size := World.block_lt_of_cell? w _ (hc 0 hpos)
  clear hc
  go_enter Try.func17, Try.ntmps17
  go_wp2_with (at_make; refine wpList_make_full _ rfl _ _ 27 rfl w.heap.size 5 i0 (Value.int .u8 0) 1 Try.underlying27 hi hz0 hz1 _ _ _ _ n rfl rfl (by omega) (by omega) (by rw [hz2]; omega) (by unfold maxLen; omega) (Nat.le_refl _) ?_)
  intro w1 hown hgrow
  have HB1 : Hid (Below w.heap.size w w1) := (Below.refl _ _).grown hgrow (Nat.le_refl _) (by simp)
  have hcur : ∃ cur : Array Value, w1.heap[w.heap.size]? = some (.cells cur 5 (0, 0)) ∧ cur.size = n := by
    rcases hown.2 with ⟨h, _⟩ | ⟨g, cap', cur, hv, _, hh, _, _, hs, _⟩
    · cases h
    · simp at hv; obtain ⟨rfl, rfl⟩ := hv
      exact ⟨cur, hh, by simpa using hs⟩
  have HX1 : Hid (w.heap.size < w1.heap.size ∧ ∀ j, j < n → (∃ x, w1.cell? ⟨w.heap.size, j, none⟩ = some x) ∧ w1.frozen? ⟨w.heap.size, j, none⟩ = false) := by
    obtain ⟨cur, hh, hs⟩ := hcur
    refine ⟨(Array.getElem?_eq_some_iff.1 hh).1, fun j hj => ⟨⟨cur[j], ?_⟩, ?_⟩⟩
    · simp [World.cell?, hh, show j < cur.size by omega]
    · simp [World.frozen?, hh]
  clear hown hgrow hcur
  go_wp2
  go_loopw [4] (fun i wr => ∃ k : Nat, k ≤ n ∧ i = .int .i64 k ∧ Hid (Below w.heap.size w wr) ∧ Hid (w.heap.size < wr.heap.size ∧ ∀ j, j < n → (∃ x, wr.cell? ⟨w.heap.size, j, none⟩ = some x) ∧ wr.frozen? ⟨w.heap.size, j, none⟩ = false) ∧
      Hid (∀ j, j < k → wr.cell? ⟨w.heap.size, j, none⟩ = some (Value.int .u8 (d.getD j 0)))) (fun i _ => n - (intOf i).toNat)
  case atStart => exact ⟨0, by omega, by go_num, HB1, HX1, fun j hj => by omega⟩
  case round =>
    obtain ⟨k, hk, rfl, HB, HX, HD⟩ := hrel
    clear HB1 HX1
    by_cases hkn : k < n
    · obtain ⟨c, hcd⟩ : ∃ c, c = d.getD k 0 := ⟨_, rfl⟩
      have hcell : wr.cell? ⟨b, off + k, none⟩ = some (Value.int .u8 c) := by rw [HB.out.cell (by exact hb), HC.out k hkn, hcd]
      obtain ⟨⟨old, hold⟩, hfz⟩ := HX.out.2 k hkn
      have HCD : Hid (c = d.getD k 0) := hcd
      have HB2 : Hid (Below w.heap.size w (wr.setCell ⟨w.heap.size, k, none⟩ (Value.int .u8 c))) := HB.out.setCell (Nat.le_refl _) _
      have HX2 : Hid (w.heap.size < (wr.setCell ⟨w.heap.size, k, none⟩ (Value.int .u8 c)).heap.size ∧ ∀ j, j < n → (∃ x, (wr.setCell ⟨w.heap.size, k, none⟩ (Value.int .u8 c)).cell? ⟨w.heap.size, j, none⟩ = some x) ∧ (wr.setCell ⟨w.heap.size, k, none⟩ (Value.int .u8 c)).frozen? ⟨w.heap.size, j, none⟩ = false) := by
        refine ⟨by simpa [World.setCell] using HX.out.1, fun j hj => ?_⟩
        obtain ⟨⟨x, hx⟩, hf⟩ := HX.out.2 j hj
        exact ⟨cell?_setCell_some hx, by rw [World.frozen?_setCell]; exact hf⟩
      have HD2 : Hid (∀ j, j < k + 1 → (wr.setCell ⟨w.heap.size, k, none⟩ (Value.int .u8 c)).cell? ⟨w.heap.size, j, none⟩ = some (Value.int .u8 (d.getD j 0))) := by
        intro j hj
        by_cases hjk : j = k
        · subst hjk
          rw [World.cell?_setCell_same _ _ _ hold, HCD.out]
        · rw [World.cell?_setCell_other _ _ _ _ (fun h => hjk (by have h2 := congrArg Addr.off h; exact h2.symm))]
          exact HD.out j (by omega)
      clear hcd
      go_wp2
      go_roundw
      case rel => exact ⟨k + 1, by omega, by go_num, HB2, HX2, HD2⟩
      case measure => simp [intOf]; omega
    · go_wp2
      go_ret
      exact ⟨rfl, HB.out, HX.out.1, fun j hj => HD.out j (by omega)⟩

theorem cloneB_nil (w : World) : Calls Try.prog 17 #[.slice none 0 0] w fun e w' => e = .returned (.slice none 0 0) ∧ w' = w := by
  have q : ∀ (w : World) (a : Option Addr) (n c n' c' : Nat), (binOp .eql 27 (.slice a n c) (.slice none n' c')).run Try.prog w = .ok (.bool a.isNone) w := fun w a n c n' c' => Lib.run_eql_slice_nil w _ _ a n c n' c' Try.underlying27
  go_enter Try.func17, Try.ntmps17
  go_wp2
  go_ret
  exact ⟨rfl, rfl⟩

set_option maxHeartbeats 1000000 in
theorem cloneB_empty (x : Addr) (cap : Nat) (w : World) : Calls Try.prog 17 #[.slice (some x) 0 cap] w fun e w' => e = .returned (.slice (some ⟨w.heap.size, 0, none⟩) 0 0) ∧ Below w.heap.size w w' := by
  have q : ∀ (w : World) (a : Option Addr) (n c n' c' : Nat), (binOp .eql 27 (.slice a n c) (.slice none n' c')).run Try.prog w = .ok (.bool a.isNone) w := fun w a n c n' c' => Lib.run_eql_slice_nil w _ _ a n c n' c' Try.underlying27
  obtain ⟨i0, hi, hz0, hz1, hz2⟩ := info_parts info5
  go_enter Try.func17, Try.ntmps17
  go_wp2_with (at_make; refine wpList_make_full _ rfl _ _ 27 rfl w.heap.size 5 i0 (Value.int .u8 0) 1 Try.underlying27 hi hz0 hz1 _ _ _ _ 0 rfl rfl rfl rfl (by rw [hz2]; omega) (by unfold maxLen; omega) (Nat.le_refl _) ?_)
  intro w1 hown hgrow
  have HB1 : Hid (Below w.heap.size w w1) := (Below.refl _ _).grown hgrow (Nat.le_refl _) (by simp)
  clear hown hgrow
  go_wp2
  refine wp_loop_rounds 1 ?_
  rw [rounds_succ]
  go_wp2
  go_ret
  exact ⟨rfl, HB1.out⟩

set_option maxHeartbeats 1000000 in
theorem cloneS_any (b off n cap : Nat) (d : List ByteArray) (w : World) (hn : d.length = n) (hN : n ≤ 1099511627776) (hpos : 0 < n) (hc : ∀ j, j < n → w.cell? ⟨b, off + j, none⟩ = some (Value.string (d.getD j ByteArray.empty))) :
    Calls Try.prog 18 #[.slice (some ⟨b, off, none⟩) n cap] w fun e w' => e = .returned (.slice (some ⟨w.heap.size, 0, none⟩) n n) ∧ Below w.heap.size w w' ∧ w.heap.size < w'.heap.size ∧
      ∀ j, j < n → w'.cell? ⟨w.heap.size, j, none⟩ = some (Value.string (d.getD j ByteArray.empty)) := by
  have q : ∀ (w : World) (a : Option Addr) (n c n' c' : Nat), (binOp .eql 28 (.slice a n c) (.slice none n' c')).run Try.prog w = .ok (.bool a.isNone) w := fun w a n c n' c' => Lib.run_eql_slice_nil w _ _ a n c n' c' Try.underlying28
  obtain ⟨i0, hi, hz0, hz1, hz2⟩ := info_parts info9
  have HC : Hid (∀ j, j < n → w.cell? ⟨b, off + j, none⟩ = some (Value.string (d.getD j ByteArray.empty))) := hc
  have hb : b < w.heap.size := World.block_lt_of_cell? w _ (hc 0 hpos)
  clear hc
  go_enter Try.func18, Try.ntmps18
  go_wp2_with (at_make; refine wpList_make_full _ rfl _ _ 28 rfl w.heap.size 9 i0 (Value.string ByteArray.empty) 1 Try.underlying28 hi hz0 hz1 _ _ _ _ n rfl rfl (by omega) (by omega) (by rw [hz2]; omega) (by unfold maxLen; omega) (Nat.le_refl _) ?_)
  intro w1 hown hgrow
  have HB1 : Hid (Below w.heap.size w w1) := (Below.refl _ _).grown hgrow (Nat.le_refl _) (by simp)
  have hcur : ∃ cur : Array Value, w1.heap[w.heap.size]? = some (.cells cur 9 (0, 0)) ∧ cur.size = n := by
    rcases hown.2 with ⟨h, _⟩ | ⟨g, cap', cur, hv, _, hh, _, _, hs, _⟩
    · cases h
    · simp at hv; obtain ⟨rfl, rfl⟩ := hv
      exact ⟨cur, hh, by simpa using hs⟩
  have HX1 : Hid (w.heap.size < w1.heap.size ∧ ∀ j, j < n → (∃ x, w1.cell? ⟨w.heap.size, j, none⟩ = some x) ∧ w1.frozen? ⟨w.heap.size, j, none⟩ = false) := by
    obtain ⟨cur, hh, hs⟩ := hcur
    refine ⟨(Array.getElem?_eq_some_iff.1 hh).1, fun j hj => ⟨⟨cur[j], ?_⟩, ?_⟩⟩
    · simp [World.cell?, hh, show j < cur.size by omega]
    · simp [World.frozen?, hh]
  clear hown hgrow hcur
  go_wp2
  go_loopw [4] (fun i wr => ∃ k : Nat, k ≤ n ∧ i = .int .i64 k ∧ Hid (Below w.heap.size w wr) ∧ Hid (w.heap.size < wr.heap.size ∧ ∀ j, j < n → (∃ x, wr.cell? ⟨w.heap.size, j, none⟩ = some x) ∧ wr.frozen? ⟨w.heap.size, j, none⟩ = false) ∧
      Hid (∀ j, j < k → wr.cell? ⟨w.heap.size, j, none⟩ = some (Value.string (d.getD j ByteArray.empty)))) (fun i _ => n - (intOf i).toNat)
  case atStart => exact ⟨0, by omega, by go_num, HB1, HX1, fun j hj => by omega⟩
  case round =>
    obtain ⟨k, hk, rfl, HB, HX, HD⟩ := hrel
    clear HB1 HX1
    by_cases hkn : k < n
    · obtain ⟨c, hcd⟩ : ∃ c, c = d.getD k ByteArray.empty := ⟨_, rfl⟩
      have hcell : wr.cell? ⟨b, off + k, none⟩ = some (Value.string c) := by rw [HB.out.cell (by exact hb), HC.out k hkn, hcd]
      obtain ⟨⟨old, hold⟩, hfz⟩ := HX.out.2 k hkn
      have HCD : Hid (c = d.getD k ByteArray.empty) := hcd
      have HB2 : Hid (Below w.heap.size w (wr.setCell ⟨w.heap.size, k, none⟩ (Value.string c))) := HB.out.setCell (Nat.le_refl _) _
      have HX2 : Hid (w.heap.size < (wr.setCell ⟨w.heap.size, k, none⟩ (Value.string c)).heap.size ∧ ∀ j, j < n → (∃ x, (wr.setCell ⟨w.heap.size, k, none⟩ (Value.string c)).cell? ⟨w.heap.size, j, none⟩ = some x) ∧ (wr.setCell ⟨w.heap.size, k, none⟩ (Value.string c)).frozen? ⟨w.heap.size, j, none⟩ = false) := by
        refine ⟨by simpa [World.setCell] using HX.out.1, fun j hj => ?_⟩
        obtain ⟨⟨x, hx⟩, hf⟩ := HX.out.2 j hj
        exact ⟨cell?_setCell_some hx, by rw [World.frozen?_setCell]; exact hf⟩
      have HD2 : Hid (∀ j, j < k + 1 → (wr.setCell ⟨w.heap.size, k, none⟩ (Value.string c)).cell? ⟨w.heap.size, j, none⟩ = some (Value.string (d.getD j ByteArray.empty))) := by
        intro j hj
        by_cases hjk : j = k
        · subst hjk
          rw [World.cell?_setCell_same _ _ _ hold, HCD.out]
        · rw [World.cell?_setCell_other _ _ _ _ (fun h => hjk (by have h2 := congrArg Addr.off h; exact h2.symm))]
          exact HD.out j (by omega)
      clear hcd
      go_wp2
      go_roundw
      case rel => exact ⟨k + 1, by omega, by go_num, HB2, HX2, HD2⟩
      case measure => simp [intOf]; omega
    · go_wp2
      go_ret
      exact ⟨rfl, HB.out, HX.out.1, fun j hj => HD.out j (by omega)⟩

theorem cloneS_nil (w : World) : Calls Try.prog 18 #[.slice none 0 0] w fun e w' => e = .returned (.slice none 0 0) ∧ w' = w := by
  have q : ∀ (w : World) (a : Option Addr) (n c n' c' : Nat), (binOp .eql 28 (.slice a n c) (.slice none n' c')).run Try.prog w = .ok (.bool a.isNone) w := fun w a n c n' c' => Lib.run_eql_slice_nil w _ _ a n c n' c' Try.underlying28
  go_enter Try.func18, Try.ntmps18
  go_wp2
  go_ret
  exact ⟨rfl, rfl⟩

set_option maxHeartbeats 1000000 in
theorem cloneS_empty (x : Addr) (cap : Nat) (w : World) : Calls Try.prog 18 #[.slice (some x) 0 cap] w fun e w' => e = .returned (.slice (some ⟨w.heap.size, 0, none⟩) 0 0) ∧ Below w.heap.size w w' := by
  have q : ∀ (w : World) (a : Option Addr) (n c n' c' : Nat), (binOp .eql 28 (.slice a n c) (.slice none n' c')).run Try.prog w = .ok (.bool a.isNone) w := fun w a n c n' c' => Lib.run_eql_slice_nil w _ _ a n c n' c' Try.underlying28
  obtain ⟨i0, hi, hz0, hz1, hz2⟩ := info_parts info9
  go_enter Try.func18, Try.ntmps18
  go_wp2_with (at_make; refine wpList_make_full _ rfl _ _ 28 rfl w.heap.size 9 i0 (Value.string ByteArray.empty) 1 Try.underlying28 hi hz0 hz1 _ _ _ _ 0 rfl rfl rfl rfl (by rw [hz2]; omega) (by unfold maxLen; omega) (Nat.le_refl _) ?_)
  intro w1 hown hgrow
  have HB1 : Hid (Below w.heap.size w w1) := (Below.refl _ _).grown hgrow (Nat.le_refl _) (by simp)
  clear hown hgrow
  go_wp2
  refine wp_loop_rounds 1 ?_
  rw [rounds_succ]
  go_wp2
  go_ret
  exact ⟨rfl, HB1.out⟩
end Go.Proofs.Qxb6600826a
