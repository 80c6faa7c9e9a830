/-
  THE WALKS: strings.IndexAny of a line end, at every string.
-/
import Derived.Test.Qxb6600826aWalkA
import Derived.Deep.LoopGhost
namespace Go.Proofs.Qxb6600826a
open Go.RowKit
set_option linter.unusedSimpArgs false
set_option linter.unusedVariables false

theorem hv52 : ∀ w, (zeroValue 52).run Try.prog w = .ok (.agg (Array.replicate 256 (.bool false))) w := fun w => by kernel_rfl

/-- The long road: the shelf's. -/
theorem indexAny_long (s : ByteArray) (w : World) (h8 : 8 < s.size) (hs : s.size < 4294967281) :
    Calls Try.prog 34 #[.string s, .string { data := #[10, 13] }] w fun e w' => e = .returned (.int .i64 (Lib.indexAny s.data.toList [10, 13])) ∧ Below w.heap.size w w' := by
  refine (Try.strings_IndexAny_long hv52 s { data := #[10, 13] } w (by decide) h8 hs (by decide) ?_).mono ?_
  · intro j b hb
    match j, hb with
    | 0, hb => simp at hb; subst hb; decide
    | 1, hb => simp at hb; subst hb; decide
    | j + 2, hb => simp at hb
  · rintro e w' ⟨rfl, rfl⟩
    exact ⟨rfl, ((Below.refl _ _).alloc (Nat.le_refl _) _).alloc (by simp) _⟩

theorem below_iterAt2 {B : Nat} {a w : World} (h : Below B a w) {k : Nat} (hk : B ≤ k) (s : ByteArray) (pos : Nat) : Below B a (w.iterAt k s pos) := Lib.below_iterAt h hk s pos

set_option maxRecDepth 100000 in
set_option maxHeartbeats 1000000 in
/-- The short road, at every byte. -/
theorem indexAny_short (s : ByteArray) (w : World) (h8 : s.size ≤ 8) :
    Calls Try.prog 34 #[.string s, .string { data := #[10, 13] }] w fun e w' => e = .returned (.int .i64 (Lib.indexAny s.data.toList [10, 13])) ∧ Below w.heap.size w w' := by
  have h8z : decide ((8 : Int) < (s.size : Int)) = false := decide_eq_false (by omega)
  go_enter Try.func34, Try.ntmps34
  go_wp2_with (go_at_call 39; refine (Try.strings_shouldUseASCIISet _ _).mono ?_; rintro e w' ⟨rfl, rfl⟩; rw [h8z])
  go_loopg [9, 10] s.size (fun g _ _ wx => ∃ i : Nat, s.size ≤ i + g ∧ Hid (wx.heap[w'.heap.size]? = some (.stringIter s i)) ∧ Hid (Below w'.heap.size w' wx) ∧ Hid (Lib.NoAny s.data.toList [10, 13] i))
  case atStart => exact ⟨0, by omega, World.iter_heap _ _ _, iter_below (Below.refl _ _) (Nat.le_refl _) _ _, Lib.NoAny.zero _ _⟩
  case round =>
    obtain ⟨i, hig, HI, HB, HN⟩ := hrel
    by_cases hi : i < s.size
    · cases gk with
      | zero => omega
      | succ g =>
        by_cases ha : (s[i]'hi).toNat < 128
        · obtain ⟨x, hx⟩ : ∃ x : UInt8, s[i]'hi = x := ⟨_, rfl⟩
          have hxl : s.data.toList[i]? = some x := by rw [← hx]; exact Lib.data_getElem? s i hi
          have hnx := fun ty => Lib.run_next_ascii_at (P := Try.prog) wr w'.heap.size s i ty HI.out hi ha
          rw [hx] at hnx ha
          have Hx : Hid (s.data.toList[i]? = some x) := hxl
          have HI2 : Hid ((wr.iterAt w'.heap.size s (i + 1)).heap[w'.heap.size]? = some (.stringIter s (i + 1))) := Lib.iterAt_heap wr _ s i (i + 1) HI.out
          have HB2 : Hid (Below w'.heap.size w' (wr.iterAt w'.heap.size s (i + 1))) := Lib.below_iterAt HB.out (Nat.le_refl _) s (i + 1)
          clear hxl hx
          have hcon := Lib.contains_iff_indexByte [10, 13] x
          have hback : ((x.toNat : Int)).toNat.toUInt8 = x := by simp
          have hn := show Hid _ from Try.strings_IndexRune_ascii { data := #[10, 13] } (x.toNat : Int)
          cases hin : ([10, 13] : List UInt8).contains x
          · rw [hin] at hcon
            have hlt : ¬ ((0 : Int) ≤ Lib.indexByte [10, 13] x) := of_decide_eq_false hcon.symm
            have HIN : Hid (([10, 13] : List UInt8).contains x = false) := hin
            clear hcon hin hn
            go_wp2_with (go_at_call 38; refine (Try.strings_IndexRune_ascii _ _ _ (by omega) (by omega)).mono ?_; rintro e w2 ⟨rfl, rfl⟩; rw [hback])
            go_roundg g
            case measure => omega
            case rel => exact ⟨i + 1, by omega, HI2, HB2, HN.out.succ Hx.out HIN.out⟩
          · rw [hin] at hcon
            have hge : (0 : Int) ≤ Lib.indexByte [10, 13] x := of_decide_eq_true hcon.symm
            have HIN : Hid (([10, 13] : List UInt8).contains x = true) := hin
            clear hcon hin hn
            go_wp2_with (go_at_call 38; refine (Try.strings_IndexRune_ascii _ _ _ (by omega) (by omega)).mono ?_; rintro e w2 ⟨rfl, rfl⟩; rw [hback])
            go_ret
            exact ⟨ret_int (by rw [Lib.indexAny_hit HN.out Hx.out HIN.out]), HB2.out⟩
        · have hh := decode_high s i hi (by omega)
          have hle := decode_le s i
          have HN2 : Hid (Lib.NoAny s.data.toList [10, 13] (i + (Utf8.decode s i).2)) := noAny_rune hi (by omega) HN.out
          have hnx := fun ty => Lib.run_next_any_at (P := Try.prog) wr w'.heap.size s i ty HI.out hi
          have HI2 := Lib.iterAt_heap wr w'.heap.size s i (i + (Utf8.decode s i).2) HI.out
          have HB2 := Lib.below_iterAt HB.out (Nat.le_refl _) s (i + (Utf8.decode s i).2)
          obtain ⟨r, hr⟩ : ∃ r, r = (Utf8.decode s i).1 := ⟨_, rfl⟩
          obtain ⟨wd, hwd⟩ : ∃ wd, wd = (Utf8.decode s i).2 := ⟨_, rfl⟩
          rw [← hr, ← hwd] at hh hnx
          rw [← hwd] at HI2 HB2 HN2
          rw [← hr] at hle
          have HI3 : Hid ((wr.iterAt w'.heap.size s (i + wd)).heap[w'.heap.size]? = some (.stringIter s (i + wd))) := HI2
          have HB3 : Hid (Below w'.heap.size w' (wr.iterAt w'.heap.size s (i + wd))) := HB2
          have hsz : w'.heap.size < (wr.iterAt w'.heap.size s (i + wd)).heap.size := (Array.getElem?_eq_some_iff.1 HI2).1
          have HSZ := show Hid _ from hsz
          clear hr hwd HI2 HB2 hsz
          obtain ⟨h128, hw1⟩ := hh
          generalize wr.iterAt w'.heap.size s (i + wd) = wn at *
          go_wp2_with (go_at_call 38; refine (indexRune_high _ (by omega) (by omega) _).mono ?_; rintro e w2 ⟨rfl, hb2⟩)
          have HI4 : Hid (w2.heap[w'.heap.size]? = some (.stringIter s (i + wd))) := by
            show _ = _
            rw [hb2.block _ HSZ.out]; exact HI3.out
          have HB4 : Hid (Below w'.heap.size w' w2) := HB3.out.trans (hb2.mono (Nat.le_of_lt HSZ.out))
          clear hb2
          go_wp2
          go_roundg g
          case measure => omega
          case rel => exact ⟨i + wd, by omega, HI4, HB4, HN2⟩
    · have hnx := fun ty => Lib.run_next_end_at (P := Try.prog) wr w'.heap.size s i ty HI.out hi
      go_wp2
      go_ret
      refine ⟨ret_int ?_, HB.out⟩
      rw [Lib.indexAny_none]
      intro j b hj hb
      rw [← Lib.size_eq] at hj
      exact HN.out j b (by omega) hb
end Go.Proofs.Qxb6600826a
