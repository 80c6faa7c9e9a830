/-
  THE LAW FnValueEndIsSelfDelimiting, WALKED.
-/
import Derived.Test.Qxb6600288aWalkC
namespace Go.Proofs.Qxb6600288a.Self
open Go.RowKit
set_option linter.unusedSimpArgs false
set_option linter.unusedVariables false

theorem big (a0 : Option Addr) (len0 cap0 : Nat) (a1 : Int) (w : World) (h : 1048576 < len0) (m0 : len0 ≤ maxLen) :
    Calls Try.prog 5 #[.slice a0 len0 cap0, .int .i64 a1] w fun e w' => e = .returned (.bool true) ∧ Below w.heap.size w w' := by
  unfold maxLen at m0
  go_enter Try.func5, Try.ntmps5
  go_wp2
  all_goals (go_ret; exact ⟨rfl, Below.refl _ _⟩)

theorem out_i (a0 : Option Addr) (len0 cap0 : Nat) (a1 : Int) (w : World) (h : len0 ≤ 1048576) (hi : a1 < 0 ∨ (len0 : Int) < a1) :
    Calls Try.prog 5 #[.slice a0 len0 cap0, .int .i64 a1] w fun e w' => e = .returned (.bool true) ∧ Below w.heap.size w w' := by
  rcases hi with hi | hi
  · go_enter Try.func5, Try.ntmps5
    go_wp2
    all_goals (go_ret; exact ⟨rfl, Below.refl _ _⟩)
  · go_enter Try.func5, Try.ntmps5
    go_wp2
    all_goals (go_ret; exact ⟨rfl, Below.refl _ _⟩)

set_option maxHeartbeats 1000000 in
theorem walk (a0 : Option Addr) (len0 cap0 : Nat) (z0 : List Int) (a1 : Int) (w : World) (w0 : RowIn w a0 len0 cap0 z0) (w1 : (Lit.int .i64 a1).wf = true) :
    Calls Try.prog 5 #[.slice a0 len0 cap0, .int .i64 a1] w fun e w' => e = .returned (.bool true) ∧ Below w.heap.size w w' := by
  have m0 : len0 ≤ maxLen := by
    rcases w0 with ⟨_, h, _⟩ | ⟨_, _, h1, h2, _⟩
    · omega
    · omega
  by_cases hT : len0 ≤ 1048576
  · by_cases hi : a1 < 0 ∨ (len0 : Int) < a1
    · exact out_i a0 len0 cap0 a1 w hT hi
    · obtain ⟨k, rfl⟩ := Int.eq_ofNat_of_zero_le (show 0 ≤ a1 by omega)
      have hk : k ≤ len0 := by omega
      clear hi m0 w1
      have W0 : Hid (RowIn w a0 len0 cap0 z0) := w0
      clear w0
      go_enter Try.func5, Try.ntmps5
      go_wp2_with (go_at_call 11; go_in)
      refine (copy_row a0 len0 cap0 z0 _ W0.out (by omega)).mono ?_
      rintro e w1 ⟨ao, rfl, B1, O1⟩
      generalize z0.take len0 = d at O1
      have HB1 : Hid (Below w.heap.size w w1) := B1
      have HO1 : Hid (Own w1 w.heap.size ao len0 d) := O1
      clear B1 W0
      have hl : d.length = len0 := O1.1
      have hR1 : k ≤ Pl.vEnd d k := Pl.le_vEnd d k
      have hR2 : Pl.vEnd d k ≤ len0 := by have := Pl.vEnd_le d k (by omega); omega
      have HT : Hid (Pl.vEnd (d.take (Pl.vEnd d k)) k = Pl.vEnd d k) := Pl.vEnd_take d k (by omega)
      have HP : Hid (∀ h : k < len0, Pl.delim (d.getD k 0) = false → k < Pl.vEnd d k) := fun h hd => Pl.vEnd_pos d k (by omega) hd
      have HL : Hid (d.length = len0) := hl
      generalize hv : Pl.vEnd d k = R at hR1 hR2 HT HP
      have HV : Hid (Pl.vEnd d k = R) := hv
      clear hv hl
      have HO2 : Hid (Own w1 w.heap.size ao R (d.take R)) := by
        refine ⟨by rw [List.length_take, HL.out]; omega, fun x hx => O1.2.1 x (List.mem_of_mem_take hx), ?_⟩
        rcases O1.2.2 with ⟨h1, h2⟩ | ⟨h1, h2, h3⟩
        · exact .inl ⟨h1, by omega⟩
        · refine .inr ⟨h1, h2, fun j hj => ?_⟩
          rw [h3 j (by omega)]
          simp [List.getD_eq_getElem?_getD, List.getElem?_take, hj]
      go_wp2_with fail
      refine (zz_own w.heap.size _ len0 len0 k d _ HO1.out (by omega) (by omega) (by omega)).mono ?_
      rintro e w2 ⟨rfl, rfl⟩
      rw [HV.out]
      rcases O1.2.2 with ⟨rfl, hz⟩ | ⟨rfl, hg, hcell⟩
      · clear O1
        obtain rfl : len0 = 0 := hz
        obtain rfl : k = 0 := by omega
        obtain rfl : R = 0 := by omega
        go_wp2_with fail
        refine (zz_nil none 0 _).mono ?_
        rintro e w3 ⟨rfl, rfl⟩
        go_wp2
        go_ret
        exact ⟨rfl, HB1.out⟩
      · clear O1
        have HC : Hid (∀ j, j < len0 → w2.cell? ⟨w.heap.size, j, none⟩ = some (.int .u8 (d.getD j 0))) := hcell
        clear hcell
        have hfin : ((R : Int) == (R : Int)) = true := by simp
        by_cases hkl : k < len0
        · obtain ⟨c, hcd⟩ : ∃ c, c = d.getD k 0 := ⟨_, rfl⟩
          have hcell : w2.cell? ⟨w.heap.size, k, none⟩ = some (.int .u8 c) := by rw [HC.out _ hkl, hcd]
          have HP2 : Hid (Pl.delim c = false → k < R) := fun h => HP.out hkl (by rw [← hcd]; exact h)
          clear hcd HP
          cases hdl : Pl.delim c
          · have hkR : k < R := HP2.out hdl
            go_wp2_with (go_at_call 12; refine (isDelim_any _ _).mono ?_; rintro e w3 ⟨rfl, rfl⟩; rw [hdl])
            refine (zz_own w.heap.size _ R len0 k (d.take R) _ HO2.out (by omega) (by omega) (by omega)).mono ?_
            rintro e w4 ⟨rfl, rfl⟩
            rw [HT.out]
            go_wp2
            go_ret
            exact ⟨rfl, HB1.out⟩
          · go_wp2_with (go_at_call 12; refine (isDelim_any _ _).mono ?_; rintro e w3 ⟨rfl, rfl⟩; rw [hdl])
            refine (zz_own w.heap.size _ R len0 k (d.take R) _ HO2.out (by omega) (by omega) (by omega)).mono ?_
            rintro e w4 ⟨rfl, rfl⟩
            rw [HT.out]
            go_wp2
            go_ret
            exact ⟨rfl, HB1.out⟩
        · go_wp2_with fail
          refine (zz_own w.heap.size _ R len0 k (d.take R) _ HO2.out (by omega) (by omega) (by omega)).mono ?_
          rintro e w4 ⟨rfl, rfl⟩
          rw [HT.out]
          go_wp2
          go_ret
          exact ⟨rfl, HB1.out⟩
  · exact big a0 len0 cap0 a1 w (by omega) m0
end Go.Proofs.Qxb6600288a.Self
