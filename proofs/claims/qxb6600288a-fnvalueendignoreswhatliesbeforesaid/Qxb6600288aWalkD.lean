/-
  THE LAW FnValueEndIgnoresWhatLiesBefore, WALKED.
-/
import Derived.Test.Qxb6600288aWalkC
namespace Go.Proofs.Qxb6600288a.Ign
open Go.RowKit
set_option linter.unusedSimpArgs false
set_option linter.unusedVariables false

theorem big (a0 : Option Addr) (len0 cap0 : Nat) (a1 : Option Addr) (len1 cap1 : Nat) (a2 : Int) (w : World) (h : 1048576 < len0 + len1) (m0 : len0 ≤ maxLen) (m1 : len1 ≤ maxLen) :
    Calls Try.prog 4 #[.slice a0 len0 cap0, .slice a1 len1 cap1, .int .i64 a2] w fun e w' => e = .returned (.bool true) ∧ Below w.heap.size w w' := by
  unfold maxLen at m0 m1
  go_enter Try.func4, Try.ntmps4
  go_wp2
  all_goals (go_ret; exact ⟨rfl, Below.refl _ _⟩)

theorem out_i (a0 : Option Addr) (len0 cap0 : Nat) (a1 : Option Addr) (len1 cap1 : Nat) (a2 : Int) (w : World) (h : len0 + len1 ≤ 1048576) (hi : a2 < 0 ∨ (len1 : Int) < a2) :
    Calls Try.prog 4 #[.slice a0 len0 cap0, .slice a1 len1 cap1, .int .i64 a2] w fun e w' => e = .returned (.bool true) ∧ Below w.heap.size w w' := by
  rcases hi with hi | hi
  · go_enter Try.func4, Try.ntmps4
    go_wp2
    all_goals (go_ret; exact ⟨rfl, Below.refl _ _⟩)
  · go_enter Try.func4, Try.ntmps4
    go_wp2
    all_goals (go_ret; exact ⟨rfl, Below.refl _ _⟩)

theorem walk (a0 : Option Addr) (len0 cap0 : Nat) (z0 : List Int) (a1 : Option Addr) (len1 cap1 : Nat) (z1 : List Int) (a2 : Int) (w : World) (w0 : RowIn w a0 len0 cap0 z0) (w1 : RowIn w a1 len1 cap1 z1) (w2 : (Lit.int .i64 a2).wf = true) :
    Calls Try.prog 4 #[.slice a0 len0 cap0, .slice a1 len1 cap1, .int .i64 a2] w fun e w' => e = .returned (.bool true) ∧ Below w.heap.size w w' := by
  have m0 : len0 ≤ maxLen := by
    rcases w0 with ⟨_, h, _⟩ | ⟨_, _, h1, h2, _⟩
    · omega
    · omega
  have m1 : len1 ≤ maxLen := by
    rcases w1 with ⟨_, h, _⟩ | ⟨_, _, h1, h2, _⟩
    · omega
    · omega
  by_cases hT : len0 + len1 ≤ 1048576
  · by_cases hi : a2 < 0 ∨ (len1 : Int) < a2
    · exact out_i a0 len0 cap0 a1 len1 cap1 a2 w hT hi
    · obtain ⟨k, rfl⟩ := Int.eq_ofNat_of_zero_le (show 0 ≤ a2 by omega)
      have hk : k ≤ len1 := by omega
      clear hi m0 m1 w2
      have W0 : Hid (RowIn w a0 len0 cap0 z0) := w0
      have W1 : Hid (RowIn w a1 len1 cap1 z1) := w1
      clear w0 w1
      go_enter Try.func4, Try.ntmps4
      go_wp2_with (go_at_call 10; go_in)
      refine (copy_row a0 len0 cap0 z0 _ W0.out (by omega)).mono ?_
      rintro e w1 ⟨ao0, rfl, B1, O1⟩
      generalize z0.take len0 = d0 at O1
      have HB1 : Hid (Below w.heap.size w w1) := B1
      have HO1 : Hid (Own w1 w.heap.size ao0 len0 d0) := O1
      have W1' : Hid (RowIn w1 a1 len1 cap1 z1) := by
        rcases W1.out with h | ⟨x, h1, h2, h3, h4, h5, h6⟩
        · exact .inl h
        · refine .inr ⟨x, h1, h2, h3, h4, fun i hi => ?_, h6⟩
          have := h5 i hi
          rw [B1.cell (World.block_lt_of_cell? w _ this)]; exact this
      have hs1 : w.heap.size ≤ w1.heap.size := B1.size
      clear B1 O1 W0 W1
      go_wp2_with fail
      refine (copy_row a1 len1 cap1 z1 _ W1'.out (by omega)).mono ?_
      rintro e w2 ⟨ao1, rfl, B2, O2⟩
      generalize z1.take len1 = d1 at O2
      have HB2 : Hid (Below w1.heap.size w1 w2) := B2
      have HO2 : Hid (Own w2 w1.heap.size ao1 len1 d1) := O2
      have hs2 : w1.heap.size ≤ w2.heap.size := B2.size
      clear B2 O2 W1'
      obtain ⟨i0, hi, hz0, hz1, hz2⟩ := info_parts info5
      go_wp2_with (at_make; refine wpList_make_own _ rfl _ _ 22 rfl w2.heap.size 5 i0 (.int .u8 0) 1 Try.underlying22 hi hz0 hz1 _ _ _ (len0 + len1) rfl rfl (by omega) (by rw [hz2]; omega) (by unfold maxLen; omega) (Nat.le_refl _) ?_)
      intro w3 hown3 hg3
      have HB3 : Hid (Below w2.heap.size w2 w3) := (Below.refl _ _).grown hg3 (Nat.le_refl _) (by simp)
      have HO1' : Hid (Own w3 w.heap.size ao0 len0 d0) := (HO1.out.keep2 HB2.out).keep2 HB3.out
      have HO2' : Hid (Own w3 w1.heap.size ao1 len1 d1) := HO2.out.keep2 HB3.out
      clear hg3
      go_wp2_with (at_builtin; refine wpList_append_fits_any _ rfl (.tmp 47) (.tmp 48) 22 rfl w2.heap.size 5 i0 1 Try.underlying22 hi hz1 w2.heap.size 0 (len0 + len1) [] rfl hown3 ao0 len0 len0 (d0.map (Value.int .u8)) rfl (by rw [List.length_map, HO1'.out.1]; omega) HO1'.out.none HO1'.out.news (ints_oneCell _ _) (by omega) ?_)
      intro w4 hown4 hg4
      try simp only [Nat.zero_add, List.nil_append] at hown4
      have HB4 : Hid (Below w2.heap.size w2 w4) := HB3.out.grown hg4 HB3.out.size (by simp)
      have HO2'' : Hid (Own w4 w1.heap.size ao1 len1 d1) := HO2.out.keep2 HB4.out
      clear hown3
      go_wp2_with (at_builtin; refine wpList_append_fits_any _ rfl (.tmp 50) (.tmp 51) 22 rfl w2.heap.size 5 i0 1 Try.underlying22 hi hz1 w2.heap.size len0 (len0 + len1) (d0.map (Value.int .u8)) rfl hown4 ao1 len1 len1 (d1.map (Value.int .u8)) rfl (by rw [List.length_map, HO2''.out.1]; omega) HO2''.out.none HO2''.out.news (ints_oneCell _ _) (by omega) ?_)
      intro w5 hown5 hg5
      rw [← List.map_append] at hown5
      have HO3 : Hid (Own w5 w2.heap.size (some ⟨w2.heap.size, 0, none⟩) (len0 + len1) (d0 ++ d1)) := own_of_row (fun x hx => (List.mem_append.1 hx).elim (HO1.out.2.1 x) (HO2.out.2.1 x)) hown5
      have HB5 : Hid (Below w2.heap.size w2 w5) := HB4.out.grown hg5 HB4.out.size (by simp)
      have HO4 : Hid (Own w5 w1.heap.size ao1 len1 d1) := HO2.out.keep2 HB5.out
      have HE : Hid (Pl.vEnd (d0 ++ d1) (len0 + k) = len0 + Pl.vEnd d1 k) := by
        have h := Pl.vEnd_app d0 d1 k
        rw [HO1.out.1] at h
        exact h
      have hR : Pl.vEnd d1 k ≤ len1 := by have := Pl.vEnd_le d1 k (by rw [HO2.out.1]; exact hk); rw [HO2.out.1] at this; exact this
      clear hown4 hown5 hg5 hg4
      go_wp2_with fail
      rw [show ((len0 : Int) + (k : Int)) = ((len0 + k : Nat) : Int) from by omega]
      refine (zz_own w2.heap.size _ (len0 + len1) (len0 + len1) (len0 + k) (d0 ++ d1) _ HO3.out (by omega) (by omega) (by omega)).mono ?_
      rintro e w6 ⟨rfl, rfl⟩
      rw [HE.out]
      generalize hv : Pl.vEnd d1 k = R at hR
      have HV := show Hid _ from hv
      clear hv
      go_wp2_with fail
      refine (zz_own w1.heap.size _ len1 len1 k d1 _ HO4.out (by omega) (by omega) (by omega)).mono ?_
      rintro e w7 ⟨rfl, rfl⟩
      rw [HV.out]
      have hfin : (((len0 + R : Nat) : Int) == (len0 : Int) + (R : Int)) = true := by rw [beq_iff_eq]; omega
      go_wp2
      go_ret
      refine ⟨rfl, ?_⟩
      exact HB1.out.trans ((HB2.out.mono hs1).trans (HB5.out.mono (by omega)))
  · exact big a0 len0 cap0 a1 len1 cap1 a2 w (by omega) m0 m1
end Go.Proofs.Qxb6600288a.Ign
