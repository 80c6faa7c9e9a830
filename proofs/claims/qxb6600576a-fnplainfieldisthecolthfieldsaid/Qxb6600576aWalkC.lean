/-
  THE LAW FnPlainFieldIsTheColthField, WALKED.
-/
import Derived.Test.Qxb6600576aWalkB
namespace Go.Proofs.Qxb6600576a.Colth
open Go.RowKit
set_option linter.unusedSimpArgs false
set_option linter.unusedVariables false

theorem big (a0 : Option Addr) (len0 cap0 : Nat) (a1 : Int) (w : World) (h : 1048576 < len0) (m0 : len0 ≤ maxLen) :
    Calls Try.prog 6 #[.slice a0 len0 cap0, .int .i64 a1] w fun e w' => e = .returned (.bool true) ∧ Below w.heap.size w w' := by
  unfold maxLen at m0
  go_enter Try.func6, Try.ntmps6
  go_wp2
  all_goals (go_ret; exact ⟨rfl, Below.refl _ _⟩)

/-- A slice that came in, as the walk reads it: its cells lie at a plain address where there is an element. -/
theorem row_cells {w : World} {a : Option Addr} {len cap : Nat} {zs : List Int} (h : RowIn w a len cap zs) :
    (zs.take len).length = len ∧ (0 < len → ∃ b off, a = some ⟨b, off, none⟩ ∧ ∀ k, k < len → w.cell? ⟨b, off + k, none⟩ = some (.int .u8 ((zs.take len).getD k 0))) := by
  rcases h with ⟨rfl, rfl, rfl, rfl⟩ | ⟨x, rfl, hl, hm, hz, hcell, hwf⟩
  · exact ⟨rfl, fun h => by omega⟩
  · refine ⟨by simp; omega, fun hp => ?_⟩
    obtain ⟨b, off, rfl, hc⟩ := ints_at hcell (by omega)
    exact ⟨b, off, rfl, fun k hk => by rw [hc k (by omega), Pl.getD_take _ _ _ hk]⟩

theorem cnt_step (d : List Int) (k n : Nat) (hn : d.length = n) (hk : k < n) (c : Int) (hc : c = d.getD k 0) : Pl.cnt (d.take (k + 1)) = Pl.cnt (d.take k) + (if c = 44 then 1 else 0) := by
  rw [Pl.cnt_take_succ d k (by omega), hc]

theorem cnt_take_le (d : List Int) (k : Nat) : Pl.cnt (d.take k) ≤ k := by
  have := Pl.cnt_le (d.take k); simp at this; omega

set_option maxHeartbeats 2000000 in
theorem walk (a0 : Option Addr) (len0 cap0 : Nat) (z0 : List Int) (a1 : Int) (w : World) (w0 : RowIn w a0 len0 cap0 z0) (w1 : (Lit.int .i64 a1).wf = true) :
    Calls Try.prog 6 #[.slice a0 len0 cap0, .int .i64 a1] w fun e w' => e = .returned (.bool true) ∧ Below w.heap.size w w' := by
  have m0 : len0 ≤ maxLen := by
    rcases w0 with ⟨_, h, _⟩ | ⟨_, _, h1, h2, _⟩
    · omega
    · omega
  by_cases hT : len0 ≤ 1048576
  · have W0 : Hid (RowIn w a0 len0 cap0 z0) := w0
    obtain ⟨hdl, hX⟩ := row_cells w0
    obtain ⟨d, hd⟩ : ∃ d, d = z0.take len0 := ⟨_, rfl⟩
    rw [← hd] at hdl hX
    have HD : Hid (d = z0.take len0) := hd
    have HX : Hid (0 < len0 → ∃ b off, a0 = some ⟨b, off, none⟩ ∧ ∀ k, k < len0 → w.cell? ⟨b, off + k, none⟩ = some (.int .u8 (d.getD k 0))) := hX
    have HDL : Hid (d.length = len0) := hdl
    clear hX w0 m0 w1 hd hdl
    go_enter Try.func6, Try.ntmps6
    go_wp2
    go_loop [5, 6] (fun c i => ∃ k : Nat, k ≤ len0 ∧ i = .int .i64 k ∧ c = .int .i64 (Pl.cnt (d.take k) : Nat)) (fun _ i => len0 - (intOf i).toNat)
    case atStart => exact ⟨0, by omega, by go_num, by simp [Pl.cnt]⟩
    case round =>
      obtain ⟨k, hk, rfl, rfl⟩ := hrel
      have hck : Pl.cnt (d.take k) ≤ k := cnt_take_le d k
      by_cases hkn : k < len0
      · obtain ⟨b, off, rfl, hcc⟩ := HX.out (by omega)
        obtain ⟨c, hcd⟩ : ∃ c, c = d.getD k 0 := ⟨_, rfl⟩
        have hcell : w.cell? ⟨b, off + k, none⟩ = some (.int .u8 c) := by rw [hcc k hkn, hcd]
        have HS := show Hid _ from cnt_step d k len0 HDL.out hkn c hcd
        clear hcc hcd
        by_cases h44 : c = 44
        · subst h44
          go_wp2
          go_round
          case rel => exact ⟨k + 1, by omega, by go_num, by rw [HS.out]; simp⟩
          case measure => simp [intOf]; omega
        · have h44' : (c == 44) = false := beq_eq_false_iff_ne.2 h44
          have HS2 : Hid (Pl.cnt (d.take (k + 1)) = Pl.cnt (d.take k)) := by
            show _ = _
            rw [HS.out, if_neg h44]; rfl
          clear h44
          go_wp2
          go_round
          case rel => exact ⟨k + 1, by omega, by go_num, by rw [HS2.out]⟩
          case measure => simp [intOf]; omega
      · obtain rfl : k = len0 := by omega
        have HC : Hid (Pl.cnt (d.take k) = Pl.cnt d) := by
          show _ = _
          rw [List.take_of_length_le (by have := HDL.out; omega)]
        rw [HC.out]
        rw [HC.out] at hck
        obtain ⟨C, hC⟩ : ∃ C, C = Pl.cnt d := ⟨_, rfl⟩
        rw [← hC] at hck
        rw [← hC]
        have HC2 : Hid (C = Pl.cnt d) := hC
        clear hC HX HC
        by_cases hcol : a1 < 0 ∨ (C : Int) < a1
        · rcases hcol with h | h
          · go_wp2
            all_goals (go_ret; exact ⟨rfl, Below.refl _ _⟩)
          · go_wp2
            all_goals (go_ret; exact ⟨rfl, Below.refl _ _⟩)
        · obtain ⟨col, rfl⟩ := Int.eq_ofNat_of_zero_le (show 0 ≤ a1 by omega)
          have hcc : col ≤ C := by omega
          clear hcol
          go_wp2_with fail
          refine (copy_row a0 k cap0 z0 _ W0.out (by omega)).mono ?_
          rintro e w1 ⟨ao, rfl, B1, O1⟩
          rw [← HD.out] at O1
          have HB1 : Hid (Below w.heap.size w w1) := B1
          have HO1 : Hid (Own w1 w.heap.size ao k d) := O1
          clear B1 W0 O1
          go_wp2_with fail
          refine (lineEnd_own w.heap.size _ k k d _ HO1.out (by omega)).mono ?_
          rintro e w2 ⟨rfl, rfl⟩
          have hLL := Pl.lel_le d
          rw [HDL.out] at hLL
          have HLE : Hid (Pl.lend d = k - Pl.lel d) := by
            show _ = _
            rw [Pl.lend_lel, HDL.out]
          obtain ⟨L, hL⟩ : ∃ L, L = Pl.lel d := ⟨_, rfl⟩
          rw [← hL] at hLL HLE
          rw [← hL]
          clear hL
          go_wp2_with fail
          refine (zz_own w.heap.size _ k k col d _ HO1.out (fun h => by rcases HO1.out.2.2 with h' | h'; exact h'.2; rw [h'.1] at h; cases h) (fun h => by omega) (by omega) (by omega) (by omega)).mono ?_
          rintro e w3 ⟨rfl, rfl⟩
          obtain ⟨p1, p2, p3, p4, p5, p6⟩ := Pl.colth d col (by rw [← HC2.out]; exact hcc)
          rw [HLE.out] at p2 p6
          obtain ⟨f, hf⟩ : ∃ f, f = Pl.from_ d col := ⟨_, rfl⟩
          obtain ⟨t, ht⟩ : ∃ t, t = Pl.to_ d col := ⟨_, rfl⟩
          rw [← hf, ← ht]
          rw [← hf, ← ht] at p1 p5
          rw [← ht] at p2 p6
          rw [← hf] at p3 p4
          have P3 := show Hid _ from p3
          have P4 := show Hid _ from p4
          have P5 := show Hid _ from p5
          have P6 := show Hid _ from p6
          clear p3 p4 p5 p6 hf ht HLE
          have HCL : Hid (0 < k → ao = some ⟨w.heap.size, 0, none⟩ ∧ ∀ j, j < k → w3.cell? ⟨w.heap.size, j, none⟩ = some (.int .u8 (d.getD j 0))) := by
            intro h
            rcases HO1.out.2.2 with h' | ⟨h1, _, h2⟩
            · omega
            · exact ⟨h1, h2⟩
          clear HO1
          go_wp2
          go_loop [10, 11] (fun c i => ∃ m : Nat, m ≤ f ∧ i = .int .i64 m ∧ c = .int .i64 (Pl.cnt (d.take m) : Nat)) (fun _ i => f - (intOf i).toNat)
          case atStart => exact ⟨0, by omega, by go_num, by simp [Pl.cnt]⟩
          case round =>
            obtain ⟨m, hm, rfl, rfl⟩ := hrel
            have hcm : Pl.cnt (d.take m) ≤ m := cnt_take_le d m
            by_cases hmf : m < f
            · obtain ⟨rfl, hcc⟩ := HCL.out (by omega)
              obtain ⟨c, hcd⟩ : ∃ c, c = d.getD m 0 := ⟨_, rfl⟩
              have hcell : w3.cell? ⟨w.heap.size, m, none⟩ = some (.int .u8 c) := by rw [hcc m (by omega), hcd]
              have HS := show Hid _ from cnt_step d m k HDL.out (by omega) c hcd
              clear hcc hcd
              by_cases h44 : c = 44
              · subst h44
                go_wp2
                go_round
                case rel => exact ⟨m + 1, by omega, by go_num, by rw [HS.out]; simp⟩
                case measure => simp [intOf]; omega
              · have h44' : (c == 44) = false := beq_eq_false_iff_ne.2 h44
                have HS2 : Hid (Pl.cnt (d.take (m + 1)) = Pl.cnt (d.take m)) := by
                  show _ = _
                  rw [HS.out, if_neg h44]; rfl
                clear h44
                go_wp2
                go_round
                case rel => exact ⟨m + 1, by omega, by go_num, by rw [HS2.out]⟩
                case measure => simp [intOf]; omega
            · obtain rfl : m = f := by omega
              rw [P3.out]
              have hneq : ((col : Int) != (col : Int)) = false := by simp
              by_cases hm0 : 0 < m
              · have haoc := HCL.out (by omega)
                obtain ⟨hao, hcc⟩ := haoc
                have hcell : w3.cell? ⟨w.heap.size, m - 1, none⟩ = some (.int .u8 44) := by rw [hcc (m - 1) (by omega), P4.out hm0]
                subst hao
                clear hcc
                go_wp2
                go_loop [12] (fun i => ∃ q : Nat, m ≤ q ∧ q ≤ t ∧ i = .int .i64 q) (fun i => t - (intOf i).toNat)
                case atStart => exact ⟨m, by omega, by omega, by go_num⟩
                case round =>
                  obtain ⟨q, hq1, hq2, rfl⟩ := hrel
                  by_cases hqt : q < t
                  · obtain ⟨_, hcc⟩ := HCL.out (by omega)
                    obtain ⟨c, hcd⟩ : ∃ c, c = d.getD q 0 := ⟨_, rfl⟩
                    have hcell : w3.cell? ⟨w.heap.size, q, none⟩ = some (.int .u8 c) := by rw [hcc q (by omega), hcd]
                    have h44 : (c == 44) = false := by rw [hcd]; exact beq_eq_false_iff_ne.2 (P5.out q hq1 hqt)
                    clear hcc hcd
                    go_wp2
                    go_round
                    case rel => exact ⟨q + 1, by omega, by omega, by go_num⟩
                    case measure => simp [intOf]; omega
                  · by_cases hte : t = k - L
                    · have hte' : ((t : Int) == (k : Int) - (L : Int)) = true := by rw [beq_iff_eq]; omega
                      clear hte
                      go_wp2
                      go_ret
                      exact ⟨rfl, HB1.out⟩
                    · obtain ⟨_, hcc⟩ := HCL.out (by omega)
                      have hcell : w3.cell? ⟨w.heap.size, t, none⟩ = some (.int .u8 44) := by rw [hcc t (by omega), P6.out hte]
                      have hte' : ((t : Int) == (k : Int) - (L : Int)) = false := by rw [beq_eq_false_iff_ne]; omega
                      have htk : t < k := by omega
                      clear hte hcc
                      go_wp2
                      go_ret
                      exact ⟨rfl, HB1.out⟩
              · go_wp2
                go_loop [12] (fun i => ∃ q : Nat, m ≤ q ∧ q ≤ t ∧ i = .int .i64 q) (fun i => t - (intOf i).toNat)
                case atStart => exact ⟨m, by omega, by omega, by go_num⟩
                case round =>
                  obtain ⟨q, hq1, hq2, rfl⟩ := hrel
                  by_cases hqt : q < t
                  · obtain ⟨rfl, hcc⟩ := HCL.out (by omega)
                    obtain ⟨c, hcd⟩ : ∃ c, c = d.getD q 0 := ⟨_, rfl⟩
                    have hcell : w3.cell? ⟨w.heap.size, q, none⟩ = some (.int .u8 c) := by rw [hcc q (by omega), hcd]
                    have h44 : (c == 44) = false := by rw [hcd]; exact beq_eq_false_iff_ne.2 (P5.out q hq1 hqt)
                    clear hcc hcd
                    go_wp2
                    go_round
                    case rel => exact ⟨q + 1, by omega, by omega, by go_num⟩
                    case measure => simp [intOf]; omega
                  · by_cases hte : t = k - L
                    · have hte' : ((t : Int) == (k : Int) - (L : Int)) = true := by rw [beq_iff_eq]; omega
                      clear hte
                      go_wp2
                      go_ret
                      exact ⟨rfl, HB1.out⟩
                    · obtain ⟨rfl, hcc⟩ := HCL.out (by omega)
                      have hcell : w3.cell? ⟨w.heap.size, t, none⟩ = some (.int .u8 44) := by rw [hcc t (by omega), P6.out hte]
                      have hte' : ((t : Int) == (k : Int) - (L : Int)) = false := by rw [beq_eq_false_iff_ne]; omega
                      have htk : t < k := by omega
                      clear hte hcc
                      go_wp2
                      go_ret
                      exact ⟨rfl, HB1.out⟩
  · exact big a0 len0 cap0 a1 w (by omega) m0
end Go.Proofs.Qxb6600576a.Colth
