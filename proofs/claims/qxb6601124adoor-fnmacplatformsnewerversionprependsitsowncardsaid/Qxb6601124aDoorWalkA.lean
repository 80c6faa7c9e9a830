/-
  THE WALKS: zzCut, strings.Cut at a dot, zzAtoiSmall.
-/
import Derived.Test.Qxb6601124aDoorShelf
import Derived.Test.Qxb6601124aDoorPlain
import Derived.WalkKit
import Derived.WalkSpells
import Derived.WalkLawsBesides
import Derived.WalkMore
import Derived.BigQuiet
import Derived.Deep.QuietTactic
import Derived.Lib.SmallJoins
import Derived.Lib.AppendIntMem
import Derived.Below
namespace Go.Proofs.Qxb6601124aDoor
open Go.RowKit
set_option linter.unusedSimpArgs false
set_option linter.unusedVariables false

theorem by_get (s : ByteArray) (k : Nat) (h : k < s.size) : s.data.toList.getD k 0 = s[k]'h := by
  have hl : k < s.data.toList.length := by rw [Array.length_toList]; exact h
  rw [List.getD_eq_getElem?_getD, List.getElem?_eq_getElem hl]
  simp
  rfl

theorem by_len (s : ByteArray) : s.data.toList.length = s.size := by rw [Array.length_toList]; rfl

theorem take_mk (s : ByteArray) (k : Nat) : s.extract 0 k = Pl.mk (s.data.toList.take k) := Pl.eq_mk (by rw [Lib.extract_data]; simp)
theorem drop_mk (s : ByteArray) (k : Nat) : s.extract k s.size = Pl.mk (s.data.toList.drop k) := Pl.eq_mk (Lib.extract_to_end s k)

theorem two_str {a b a' b' : ByteArray} (h : a = a') (k : b = b') : Ending.returned (.tuple #[.string a, .string b]) = .returned (.tuple #[.string a', .string b']) := by rw [h, k]
theorem three_str {a b a' b' : ByteArray} {c c' : Bool} (h : a = a') (k : b = b') (l : c = c') : Ending.returned (.tuple #[.string a, .string b, .bool c]) = .returned (.tuple #[.string a', .string b', .bool c']) := by rw [h, k, l]

set_option maxHeartbeats 800000 in
theorem zzCut_any (s : ByteArray) (w : World) (hs : s.size ≤ 1048576) :
    Calls Tryd.prog 40 #[.string s] w fun e w' => e = .returned (.tuple #[.string (Pl.mk (Pl.cutL s.data.toList).1), .string (Pl.mk (Pl.cutL s.data.toList).2)]) ∧ Below w.heap.size w w' := by
  go_enter Tryd.func40, Tryd.ntmps40
  go_wp2
  go_loop [4] (fun i => ∃ k : Nat, k ≤ s.size ∧ i = .int .i64 k ∧ Hid (∀ j, j < k → s.data.toList.getD j 0 ≠ 46)) (fun i => s.size - (intOf i).toNat)
  case atStart => exact ⟨0, by omega, by go_num, fun j hj => by omega⟩
  case round =>
    obtain ⟨k, hk, rfl, HK⟩ := hrel
    by_cases hlt : k < s.size
    · have HG : Hid (s.data.toList.getD k 0 = s[k]) := by_get s k hlt
      by_cases h46 : ((s[k].toNat : Int) == 46) = true
      · have H46 : Hid (s.data.toList.getD k 0 = 46) := by
          show _ = _
          rw [HG.out]
          apply UInt8.toNat_inj.1
          have := beq_iff_eq.1 h46
          have e : (46 : UInt8).toNat = 46 := rfl
          omega
        have hw1 : IntKind.i64.wrap ((k : Int) + 1) = ((k + 1 : Nat) : Int) := by rw [wrap_small _ (by omega) (by omega)]; omega
        go_wp2
        go_quiet (fail)
        go_wp2
        go_ret2
        refine ⟨?_, below_drewN (Below.refl _ _) _⟩
        have hc := Pl.cutL_at s.data.toList k (by rw [by_len]; exact hlt) HK.out H46.out
        rw [hc]
        exact two_str (take_mk _ _) (drop_mk _ _)
      · have h46' : ((s[k].toNat : Int) == 46) = false := by simpa using h46
        clear h46
        go_wp2
        go_round
        case rel =>
          refine ⟨k + 1, by omega, by go_num, fun j hj => ?_⟩
          by_cases hjk : j < k
          · exact HK.out j hjk
          · obtain rfl : j = k := by omega
            rw [HG.out]
            intro e
            have := beq_eq_false_iff_ne.1 h46'
            rw [e] at this
            exact this rfl
        case measure => simp [intOf]; omega
    · go_wp2
      go_ret2
      refine ⟨?_, Below.refl _ _⟩
      have hc := Pl.cutL_none s.data.toList (by
        intro x hx
        obtain ⟨j, hj⟩ := List.getElem?_of_mem hx
        have hjl := (List.getElem?_eq_some_iff.1 hj).1
        rw [by_len] at hjl
        have := HK.out j (by omega)
        rwa [List.getD_eq_getElem?_getD, hj] at this)
      rw [hc]
      exact two_str (Pl.mk_of s).symm rfl

theorem idx_dot (l : List UInt8) : (Lib.indexByte l 46 = -1 ∧ Pl.cutL l = (l, [])) ∨ ∃ k : Nat, Lib.indexByte l 46 = (k : Int) ∧ k < l.length ∧ Pl.cutL l = (l.take k, l.drop (k + 1)) := by
  induction l with
  | nil => left; exact ⟨rfl, rfl⟩
  | cons c r ih =>
    by_cases h : c = 46
    · right
      refine ⟨0, ?_, by simp, by simp [Pl.cutL, h]⟩
      simp [Lib.indexByte, h]
    · rcases ih with ⟨h1, h2⟩ | ⟨k, h1, h2, h3⟩
      · left
        refine ⟨by simp [Lib.indexByte, h, h1], by simp [Pl.cutL, h, h2]⟩
      · right
        refine ⟨k + 1, ?_, by simp; omega, by simp [Pl.cutL, h, h3]⟩
        simp [Lib.indexByte, h, h1]

set_option maxHeartbeats 800000 in
theorem liteCut_dot (s : ByteArray) (w : World) (hs : s.size ≤ 1048576) :
    Calls Tryd.prog 56 #[.string s, .string ⟨#[46]⟩] w fun e w' => (∃ b, e = .returned (.tuple #[.string (Pl.mk (Pl.cutL s.data.toList).1), .string (Pl.mk (Pl.cutL s.data.toList).2), .bool b])) ∧ Below w.heap.size w w' := by
  rcases idx_dot s.data.toList with ⟨h1, h2⟩ | ⟨k, h1, h2, h3⟩
  · go_enter Tryd.func56, Tryd.ntmps56
    go_wp2_with (go_at_call 64; refine (Tryd.stringslite_Index_one _ _ _).mono ?_; rintro e w' ⟨rfl, rfl⟩; rw [h1])
    go_ret3
    rw [h2]
    exact ⟨⟨false, three_str (Pl.mk_of s).symm rfl rfl⟩, Below.refl _ _⟩
  · rw [by_len] at h2
    have hw1 : IntKind.i64.wrap ((k : Int) + 1) = ((k + 1 : Nat) : Int) := by rw [wrap_small _ (by omega) (by omega)]; omega
    have HC : Hid (Pl.cutL s.data.toList = (s.data.toList.take k, s.data.toList.drop (k + 1))) := h3
    clear h3
    go_enter Tryd.func56, Tryd.ntmps56
    go_wp2_with (go_at_call 64; refine (Tryd.stringslite_Index_one _ _ _).mono ?_; rintro e w' ⟨rfl, rfl⟩; rw [h1])
    go_quiet (fail)
    go_wp2
    go_ret3
    rw [HC.out]
    exact ⟨⟨true, three_str (take_mk _ _) (drop_mk _ _) rfl⟩, below_drewN (Below.refl _ _) _⟩

theorem cut_dot (s : ByteArray) (w : World) (hs : s.size ≤ 1048576) :
    Calls Tryd.prog 47 #[.string s, .string ⟨#[46]⟩] w fun e w' => (∃ b, e = .returned (.tuple #[.string (Pl.mk (Pl.cutL s.data.toList).1), .string (Pl.mk (Pl.cutL s.data.toList).2), .bool b])) ∧ Below w.heap.size w w' := by
  go_enter Tryd.func47, Tryd.ntmps47
  go_wp2_with (go_at_call 56; refine (liteCut_dot _ _ hs).mono ?_; rintro e w' ⟨⟨b, rfl⟩, hb⟩)
  go_ret3
  exact ⟨⟨b, rfl⟩, hb⟩

end Go.Proofs.Qxb6601124aDoor
