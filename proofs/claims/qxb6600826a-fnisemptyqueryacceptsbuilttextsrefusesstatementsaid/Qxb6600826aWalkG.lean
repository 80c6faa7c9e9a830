/-
  THE WALKS: buildEmptyQuery, its body.
-/
import Derived.Test.Qxb6600826aWalkF
namespace Go.Proofs.Qxb6600826a
open Go.RowKit
set_option linter.unusedSimpArgs false
set_option linter.unusedVariables false

theorem Buf.drew {B : Nat} {w0 w : World} {v : Value} {D : List Int} (h : Buf B w0 w v D) : Buf B w0 w.drew v D := ⟨h.1, h.2.1.drew, h.2.2.1, h.2.2.2.drew⟩

set_option maxRecDepth 100000 in
set_option maxHeartbeats 4000000 in
theorem build_any (ao0 ao1 : Option Addr) (n0 c0 n1 c1 : Nat) (K : List Int) (S : List ByteArray) (w : World) (hn0 : n0 ≤ 1048576) (hn1 : n1 ≤ 65536) (hsz : sz S n1 ≤ 1048576)
    (hK : ∀ k, k < n0 → 0 ≤ K.getD k 0 ∧ K.getD k 0 ≤ 255)
    (hX0 : 0 < n0 → ∃ g, ao0 = some ⟨g, 0, none⟩ ∧ g < w.heap.size ∧ ∀ k, k < n0 → w.cell? ⟨g, k, none⟩ = some (.int .u8 (K.getD k 0)))
    (hX1 : 0 < n1 → ∃ g, ao1 = some ⟨g, 0, none⟩ ∧ g < w.heap.size ∧ ∀ k, k < n1 → w.cell? ⟨g, k, none⟩ = some (.string (S.getD k ByteArray.empty))) :
    Calls Try.prog 19 #[.slice ao0 n0 c0, .slice ao1 n1 c1] w fun e w' => ∃ v D, e = .returned v ∧ Buf w.heap.size w w' v D ∧ Good D ∧ D.length ≤ 16777216 := by
  have HX0 := show Hid _ from hX0
  have HX1 := show Hid _ from hX1
  have HK := show Hid _ from hK
  clear hX0 hX1 hK
  obtain ⟨i0, hi, hz0, hz1, hz2⟩ := info_parts info5
  obtain ⟨n, hn, hnA, hnB⟩ : ∃ n : Nat, ((n = n1 ∧ n1 < n0) ∨ (n = n0 ∧ ¬ n1 < n0)) ∧ n ≤ n0 ∧ n ≤ n1 := by
    by_cases h : n1 < n0
    · exact ⟨n1, .inl ⟨rfl, h⟩, by omega, by omega⟩
    · exact ⟨n0, .inr ⟨rfl, h⟩, by omega, by omega⟩
  have HY : Hid (0 < n → ∃ g0 g1, ao0 = some ⟨g0, 0, none⟩ ∧ ao1 = some ⟨g1, 0, none⟩ ∧ g0 < w.heap.size ∧ g1 < w.heap.size ∧ (∀ k, k < n → w.cell? ⟨g0, k, none⟩ = some (.int .u8 (K.getD k 0))) ∧ ∀ k, k < n → w.cell? ⟨g1, k, none⟩ = some (.string (S.getD k ByteArray.empty))) := by
    intro h
    obtain ⟨g0, a1, a2, a3⟩ := HX0.out (by omega)
    obtain ⟨g1, b1, b2, b3⟩ := HX1.out (by omega)
    exact ⟨g0, g1, a1, b1, a2, b2, fun k hk => a3 k (by omega), fun k hk => b3 k (by omega)⟩
  have HKn : Hid (∀ k, k < n → 0 ≤ K.getD k 0 ∧ K.getD k 0 ≤ 255) := fun k hk => HK.out k (by omega)
  have HSZ : Hid (sz S n ≤ 1048576) := Nat.le_trans (sz_mono S hnB) hsz
  have hn16 : n ≤ 65536 := by omega
  clear HX0 HX1 HK hsz
  go_enter Try.func19, Try.ntmps19
  rcases hn with ⟨rfl, hlt⟩ | ⟨rfl, hlt⟩
  all_goals
    go_wp2_with (at_make; refine wpList_make_own _ rfl _ _ 27 rfl w.heap.size 5 i0 (.int .u8 0) 1 Try.underlying27 hi hz0 hz1 _ _ _ 16 rfl rfl rfl (by rw [hz2]; omega) (by unfold maxLen; omega) (Nat.le_refl _) ?_)
    intro w1 hown1 hg1
    have HB1 : Hid (Buf w.heap.size w w1 (.slice (some ⟨w.heap.size, 0, none⟩) 0 16) []) := ⟨Nat.le_refl _, hown1, by simp, (Below.refl _ _).grown hg1 (Nat.le_refl _) (by simp)⟩
    clear hown1 hg1
    go_wp2
    go_loopw [6, 7] (fun u i wr => ∃ (k : Nat) (D : List Int), k ≤ n ∧ i = .int .i64 k ∧ Hid (Buf w.heap.size w wr u D) ∧ Hid (Good D) ∧ Hid (D.length ≤ 16 * k + 8 * sz S k)) (fun _ i _ => n - (intOf i).toNat)
    case atStart => exact ⟨0, [], by omega, by go_num, HB1, good_nil, Nat.zero_le _⟩
    case round =>
      obtain ⟨k, D, hk, rfl, HB, HGD, HL⟩ := hrel
      clear HB1
      by_cases hkn : k < n
      · obtain ⟨g0, g1, rfl, rfl, hg0, hg1, hc0, hc1⟩ := HY.out (by omega)
        obtain ⟨kd, hkd⟩ : ∃ c, c = K.getD k 0 := ⟨_, rfl⟩
        obtain ⟨t, htd⟩ : ∃ s, s = S.getD k ByteArray.empty := ⟨_, rfl⟩
        have hcell0 : wr.cell? ⟨g0, k, none⟩ = some (.int .u8 kd) := by rw [HB.out.2.2.2.cell (by exact hg0), hc0 k hkn, hkd]
        have hcell1 : wr.cell? ⟨g1, k, none⟩ = some (.string t) := by rw [HB.out.2.2.2.cell (by exact hg1), hc1 k hkn, htd]
        have hkr := HKn.out k hkn
        rw [← hkd] at hkr
        obtain ⟨hk0, hk255⟩ := hkr
        have HS1 : Hid (sz S (k + 1) = sz S k + t.size) := by
          show _ = _
          rw [htd]; rfl
        have hszk : sz S k + t.size ≤ 1048576 := by
          rw [← HS1.out]; exact Nat.le_trans (sz_mono S hkn) HSZ.out
        have hDl : D.length ≤ 16 * 65536 + 8 * 1048576 := by have := HL.out; omega
        have hDk : D.length ≤ 16 * k + 8 * sz S k := HL.out
        have HDK : Hid (D.length ≤ 16 * k + 8 * sz S k) := hDk
        have htsz : t.size ≤ 1048576 := by omega
        clear hkd htd hc0 hc1 HL hDk
        rcases (show kd % 4 = 0 ∨ kd % 4 = 1 ∨ (kd % 4 ≠ 0 ∧ kd % 4 ≠ 1) from by omega) with h4 | h4 | ⟨h4, h4'⟩
        · rcases (show (t.size : Int) % 6 = 0 ∨ (t.size : Int) % 6 = 1 ∨ (t.size : Int) % 6 = 2 ∨ (t.size : Int) % 6 = 3 ∨ (t.size : Int) % 6 = 4 ∨ (t.size : Int) % 6 = 5 from by omega) with h6 | h6 | h6 | h6 | h6 | h6
          · go_wp2_with (at_builtin; refine wpList_append_own _ rfl (.tmp 78) (.tmp 83) 27 rfl w.heap.size 5 i0 (.int .u8 0) 1 1 Try.underlying27 hi hz0 hz1 hz2 rfl (by decide) u6 D.length (D.map (Value.int .u8)) rfl (HB.out.own.alloc _) ⟨wr.heap.size, 0, none⟩ 1 1 [.int .u8 32] rfl rfl (cell_one_new _ _ _) (by intro u hu; simp at hu; subst hu; rfl) (by unfold maxLen; omega) (by omega) (by have := HB.out.le; simp; omega) ?_)
            intro v2 w2 hown2 hg2 hne2
            have HB2 : Hid (Buf w.heap.size w w2 v2 (D ++ [32])) := HB.out.next (N := [32]) rfl hown2 hg2 hne2
            have HG2 : Hid (Good (D ++ [32])) := HGD.out.app (good_space 32 (by decide) (by decide) (by decide))
            clear hown2 hg2 hne2
            go_wp2
            go_roundw
            case rel => exact ⟨k + 1, D ++ [32], by omega, by go_num, HB2, HG2, by
              show _ ≤ _
              rw [HS1.out, List.length_append]
              have := HDK.out
              simp; omega⟩
            case measure => simp [intOf]; omega
          · go_wp2_with (at_builtin; refine wpList_append_own _ rfl (.tmp 78) (.tmp 83) 27 rfl w.heap.size 5 i0 (.int .u8 0) 1 1 Try.underlying27 hi hz0 hz1 hz2 rfl (by decide) u6 D.length (D.map (Value.int .u8)) rfl (HB.out.own.alloc _) ⟨wr.heap.size, 0, none⟩ 1 1 [.int .u8 9] rfl rfl (cell_one_new _ _ _) (by intro u hu; simp at hu; subst hu; rfl) (by unfold maxLen; omega) (by omega) (by have := HB.out.le; simp; omega) ?_)
            intro v2 w2 hown2 hg2 hne2
            have HB2 : Hid (Buf w.heap.size w w2 v2 (D ++ [9])) := HB.out.next (N := [9]) rfl hown2 hg2 hne2
            have HG2 : Hid (Good (D ++ [9])) := HGD.out.app (good_space 9 (by decide) (by decide) (by decide))
            clear hown2 hg2 hne2
            go_wp2
            go_roundw
            case rel => exact ⟨k + 1, D ++ [9], by omega, by go_num, HB2, HG2, by
              show _ ≤ _
              rw [HS1.out, List.length_append]
              have := HDK.out
              simp; omega⟩
            case measure => simp [intOf]; omega
          · go_wp2_with (at_builtin; refine wpList_append_own _ rfl (.tmp 78) (.tmp 83) 27 rfl w.heap.size 5 i0 (.int .u8 0) 1 1 Try.underlying27 hi hz0 hz1 hz2 rfl (by decide) u6 D.length (D.map (Value.int .u8)) rfl (HB.out.own.alloc _) ⟨wr.heap.size, 0, none⟩ 1 1 [.int .u8 10] rfl rfl (cell_one_new _ _ _) (by intro u hu; simp at hu; subst hu; rfl) (by unfold maxLen; omega) (by omega) (by have := HB.out.le; simp; omega) ?_)
            intro v2 w2 hown2 hg2 hne2
            have HB2 : Hid (Buf w.heap.size w w2 v2 (D ++ [10])) := HB.out.next (N := [10]) rfl hown2 hg2 hne2
            have HG2 : Hid (Good (D ++ [10])) := HGD.out.app (good_space 10 (by decide) (by decide) (by decide))
            clear hown2 hg2 hne2
            go_wp2
            go_roundw
            case rel => exact ⟨k + 1, D ++ [10], by omega, by go_num, HB2, HG2, by
              show _ ≤ _
              rw [HS1.out, List.length_append]
              have := HDK.out
              simp; omega⟩
            case measure => simp [intOf]; omega
          · go_wp2_with (at_builtin; refine wpList_append_own _ rfl (.tmp 78) (.tmp 83) 27 rfl w.heap.size 5 i0 (.int .u8 0) 1 1 Try.underlying27 hi hz0 hz1 hz2 rfl (by decide) u6 D.length (D.map (Value.int .u8)) rfl (HB.out.own.alloc _) ⟨wr.heap.size, 0, none⟩ 1 1 [.int .u8 13] rfl rfl (cell_one_new _ _ _) (by intro u hu; simp at hu; subst hu; rfl) (by unfold maxLen; omega) (by omega) (by have := HB.out.le; simp; omega) ?_)
            intro v2 w2 hown2 hg2 hne2
            have HB2 : Hid (Buf w.heap.size w w2 v2 (D ++ [13])) := HB.out.next (N := [13]) rfl hown2 hg2 hne2
            have HG2 : Hid (Good (D ++ [13])) := HGD.out.app (good_space 13 (by decide) (by decide) (by decide))
            clear hown2 hg2 hne2
            go_wp2
            go_roundw
            case rel => exact ⟨k + 1, D ++ [13], by omega, by go_num, HB2, HG2, by
              show _ ≤ _
              rw [HS1.out, List.length_append]
              have := HDK.out
              simp; omega⟩
            case measure => simp [intOf]; omega
          · go_wp2_with (at_builtin; refine wpList_append_own _ rfl (.tmp 78) (.tmp 83) 27 rfl w.heap.size 5 i0 (.int .u8 0) 1 1 Try.underlying27 hi hz0 hz1 hz2 rfl (by decide) u6 D.length (D.map (Value.int .u8)) rfl (HB.out.own.alloc _) ⟨wr.heap.size, 0, none⟩ 1 1 [.int .u8 12] rfl rfl (cell_one_new _ _ _) (by intro u hu; simp at hu; subst hu; rfl) (by unfold maxLen; omega) (by omega) (by have := HB.out.le; simp; omega) ?_)
            intro v2 w2 hown2 hg2 hne2
            have HB2 : Hid (Buf w.heap.size w w2 v2 (D ++ [12])) := HB.out.next (N := [12]) rfl hown2 hg2 hne2
            have HG2 : Hid (Good (D ++ [12])) := HGD.out.app (good_space 12 (by decide) (by decide) (by decide))
            clear hown2 hg2 hne2
            go_wp2
            go_roundw
            case rel => exact ⟨k + 1, D ++ [12], by omega, by go_num, HB2, HG2, by
              show _ ≤ _
              rw [HS1.out, List.length_append]
              have := HDK.out
              simp; omega⟩
            case measure => simp [intOf]; omega
          · go_wp2_with (at_builtin; refine wpList_append_own _ rfl (.tmp 78) (.tmp 83) 27 rfl w.heap.size 5 i0 (.int .u8 0) 1 1 Try.underlying27 hi hz0 hz1 hz2 rfl (by decide) u6 D.length (D.map (Value.int .u8)) rfl (HB.out.own.alloc _) ⟨wr.heap.size, 0, none⟩ 1 1 [.int .u8 11] rfl rfl (cell_one_new _ _ _) (by intro u hu; simp at hu; subst hu; rfl) (by unfold maxLen; omega) (by omega) (by have := HB.out.le; simp; omega) ?_)
            intro v2 w2 hown2 hg2 hne2
            have HB2 : Hid (Buf w.heap.size w w2 v2 (D ++ [11])) := HB.out.next (N := [11]) rfl hown2 hg2 hne2
            have HG2 : Hid (Good (D ++ [11])) := HGD.out.app (good_space 11 (by decide) (by decide) (by decide))
            clear hown2 hg2 hne2
            go_wp2
            go_roundw
            case rel => exact ⟨k + 1, D ++ [11], by omega, by go_num, HB2, HG2, by
              show _ ≤ _
              rw [HS1.out, List.length_append]
              have := HDK.out
              simp; omega⟩
            case measure => simp [intOf]; omega
        · go_wp2_with (at_builtin; refine wpList_append_own _ rfl (.tmp 87) (.tmp 88) 27 rfl w.heap.size 5 i0 (.int .u8 0) 1 1 Try.underlying27 hi hz0 hz1 hz2 rfl (by decide) u6 D.length (D.map (Value.int .u8)) rfl (HB.out.own.alloc _) ⟨wr.heap.size, 0, none⟩ 2 2 [.int .u8 45, .int .u8 45] rfl rfl (cell_two_new _ _ _ _) (by intro u hu; simp at hu; subst hu; rfl) (by unfold maxLen; omega) (by omega) (by have := HB.out.le; simp; omega) ?_)
          intro v2 w2 hown2 hg2 hne2
          have HB2 : Hid (Buf w.heap.size w w2 v2 (D ++ [45, 45])) := HB.out.next (N := [45, 45]) rfl hown2 hg2 hne2
          clear hown2 hg2 hne2
          go_wp2_with fail
          refine (without_any w.heap.size w v2 (D ++ [45, 45]) t w2 HB2.out (by simp; omega) htsz).mono ?_
          rintro e w3 ⟨v3, rfl, B3⟩
          obtain ⟨C, hC⟩ : ∃ C, C = (D ++ [45, 45]) ++ without (bs t) := ⟨_, rfl⟩
          rw [← hC] at B3
          have HB3 : Hid (Buf w.heap.size w w3 v3 C) := B3
          have hCl : C.length ≤ D.length + 2 + t.size := by
            have h := without_len (bs t)
            rw [bs_length] at h
            rw [hC]; simp; omega
          have HC : Hid (C = (D ++ [45, 45]) ++ without (bs t)) := hC
          clear B3 hC
          by_cases h2 : kd / 4 % 2 = 0
          · have h2' : (kd / 4 % 2 == 0) = true := by rw [beq_iff_eq]; exact h2
            clear h2
            go_wp2_with (at_builtin; refine wpList_append_own _ rfl (.tmp 97) (.tmp 98) 27 rfl w.heap.size 5 i0 (.int .u8 0) 1 1 Try.underlying27 hi hz0 hz1 hz2 rfl (by decide) v3 C.length (C.map (Value.int .u8)) rfl (HB3.out.own.alloc _) ⟨w3.heap.size, 0, none⟩ 1 1 [.int .u8 10] rfl rfl (cell_one_new _ _ _) (by intro u hu; simp at hu; subst hu; rfl) (by unfold maxLen; omega) (by omega) (by have := HB3.out.le; simp; omega) ?_)
            intro v4 w4 hown4 hg4 hne4
            have HB4 : Hid (Buf w.heap.size w w4 v4 (D ++ ([45, 45] ++ without (bs t) ++ [10]))) := (HB3.out.next (N := [10]) rfl hown4 hg4 hne4).cast (by rw [HC.out]; simp)
            have HG4 : Hid (Good (D ++ ([45, 45] ++ without (bs t) ++ [10]))) := HGD.out.app (good_line (bs t) (bs_range t) 10 (.inl rfl))
            clear hown4 hg4 hne4
            go_wp2
            go_roundw
            case rel => exact ⟨k + 1, D ++ ([45, 45] ++ without (bs t) ++ [10]), by omega, by go_num, HB4, HG4, by
              show _ ≤ _
              have h := without_len (bs t)
              rw [bs_length] at h
              rw [HS1.out, List.length_append]
              have := HDK.out
              simp; omega⟩
            case measure => simp [intOf]; omega
          · have h2' : (kd / 4 % 2 == 0) = false := by rw [beq_eq_false_iff_ne]; exact h2
            clear h2
            go_wp2_with (at_builtin; refine wpList_append_own _ rfl (.tmp 100) (.tmp 101) 27 rfl w.heap.size 5 i0 (.int .u8 0) 1 1 Try.underlying27 hi hz0 hz1 hz2 rfl (by decide) v3 C.length (C.map (Value.int .u8)) rfl (HB3.out.own.alloc _) ⟨w3.heap.size, 0, none⟩ 1 1 [.int .u8 13] rfl rfl (cell_one_new _ _ _) (by intro u hu; simp at hu; subst hu; rfl) (by unfold maxLen; omega) (by omega) (by have := HB3.out.le; simp; omega) ?_)
            intro v4 w4 hown4 hg4 hne4
            have HB4 : Hid (Buf w.heap.size w w4 v4 (D ++ ([45, 45] ++ without (bs t) ++ [13]))) := (HB3.out.next (N := [13]) rfl hown4 hg4 hne4).cast (by rw [HC.out]; simp)
            have HG4 : Hid (Good (D ++ ([45, 45] ++ without (bs t) ++ [13]))) := HGD.out.app (good_line (bs t) (bs_range t) 13 (.inr rfl))
            clear hown4 hg4 hne4
            go_wp2
            go_roundw
            case rel => exact ⟨k + 1, D ++ ([45, 45] ++ without (bs t) ++ [13]), by omega, by go_num, HB4, HG4, by
              show _ ≤ _
              have h := without_len (bs t)
              rw [bs_length] at h
              rw [HS1.out, List.length_append]
              have := HDK.out
              simp; omega⟩
            case measure => simp [intOf]; omega
        · have h40 : (kd % 4 == 0) = false := by rw [beq_eq_false_iff_ne]; exact h4
          have h41 : (kd % 4 == 1) = false := by rw [beq_eq_false_iff_ne]; exact h4'
          obtain ⟨dn, hdn, hd1, hd4⟩ : ∃ dn : Nat, kd / 4 % 4 + 1 = (dn : Int) ∧ 1 ≤ dn ∧ dn ≤ 4 := ⟨(kd / 4 % 4 + 1).toNat, by omega, by omega, by omega⟩
          clear h4 h4'
          go_wp2
          go_loopw [6, 12] (fun u j wx => ∃ (q : Nat) (ts : List (List Int)), q ≤ dn ∧ j = .int .i64 q ∧ Hid (ts.length = q) ∧ Hid (Buf w.heap.size w wx u (D ++ Pl.opens ts)) ∧ Hid (∀ x ∈ ts, x.length ≤ t.size ∧ ∀ y ∈ x, 0 ≤ y ∧ y ≤ 255)) (fun _ j _ => dn - (intOf j).toNat)
          case atStart => exact ⟨0, [], by omega, by go_num, rfl, HB.out.cast (by simp [Pl.opens]), fun x hx => by simp at hx⟩
          case round =>
            obtain ⟨q, ts, hq, rfl, HQ, HBq, HR⟩ := hrel
            clear hcell0 hcell1 HB
            have hol : (Pl.opens ts).length ≤ 8 * t.size + 8 := opens_len4 ts t.size (by rw [HQ.out]; omega) (fun x hx => (HR.out x hx).1)
            by_cases hqd : q < dn
            · obtain ⟨C, hC⟩ : ∃ C, C = D ++ Pl.opens ts := ⟨_, rfl⟩
              have HBC : Hid (Buf w.heap.size w wr u6 C) := HBq.out.cast hC.symm
              have hCl : C.length ≤ D.length + 8 * t.size + 8 := by rw [hC]; simp; omega
              have HC : Hid (C = D ++ Pl.opens ts) := hC
              clear hC HBq hol
              obtain ⟨A, hA⟩ : ∃ A, A = q * t.size := ⟨_, rfl⟩
              obtain ⟨A2, hA2⟩ : ∃ A, A = (q + 1) * t.size := ⟨_, rfl⟩
              have hp := part_le q t.size dn (by omega) hqd
              rw [← hA, ← hA2] at hp
              obtain ⟨p1, hp1⟩ : ∃ p, p = A / dn := ⟨_, rfl⟩
              obtain ⟨p2, hp2⟩ : ∃ p, p = A2 / dn := ⟨_, rfl⟩
              rw [← hp1, ← hp2] at hp
              obtain ⟨hp12, hp2m⟩ := hp
              have e1 : (q : Int) * (t.size : Int) = (A : Int) := by rw [hA]; push_cast; rfl
              have e2 : ((q : Int) + 1) * (t.size : Int) = (A2 : Int) := by rw [hA2]; push_cast; rfl
              have hAb : A ≤ 4 * 1048576 := by rw [hA]; exact Nat.mul_le_mul (by omega) htsz
              have hA2b : A2 ≤ 5 * 1048576 := by rw [hA2]; exact Nat.mul_le_mul (by omega) htsz
              have e3 : (A : Int) / (dn : Int) = (p1 : Int) := by rw [hp1]; exact (Int.natCast_ediv A dn).symm ▸ rfl
              have e4 : (A2 : Int) / (dn : Int) = (p2 : Int) := by rw [hp2]; exact (Int.natCast_ediv A2 dn).symm ▸ rfl
              clear hA hA2 hp1 hp2
              have wA : IntKind.i64.wrap (A : Int) = (A : Int) := wrap_small _ (by omega) (by omega)
              have wA2 : IntKind.i64.wrap (A2 : Int) = (A2 : Int) := wrap_small _ (by omega) (by omega)
              have wq : IntKind.i64.wrap ((q : Int) + 1) = (q : Int) + 1 := wrap_small _ (by omega) (by omega)
              have wp1 : IntKind.i64.wrap (p1 : Int) = (p1 : Int) := wrap_small _ (by omega) (by omega)
              have wp2 : IntKind.i64.wrap (p2 : Int) = (p2 : Int) := wrap_small _ (by omega) (by omega)
              have hd0 : ¬ dn = 0 := by omega
              have g1' : (0 : Int) ≤ (p1 : Int) := by omega
              have g2' : (p1 : Int) ≤ (p2 : Int) := by omega
              have g3' : (p2 : Int) ≤ (t.size : Int) := by omega
              go_wp2_with (at_builtin; refine wpList_append_own _ rfl (.tmp 50) (.tmp 51) 27 rfl w.heap.size 5 i0 (.int .u8 0) 1 1 Try.underlying27 hi hz0 hz1 hz2 rfl (by decide) u6 C.length (C.map (Value.int .u8)) rfl (HBC.out.own.alloc _) ⟨wr.heap.size, 0, none⟩ 2 2 [.int .u8 47, .int .u8 42] rfl rfl (cell_two_new _ _ _ _) (by intro u hu; simp at hu; rcases hu with hu | hu <;> subst hu <;> rfl) (by unfold maxLen; omega) (by omega) (by have := HBC.out.le; simp; omega) ?_)
              intro v2 w2 hown2 hg2 hne2
              have HB2 : Hid (Buf w.heap.size w w2 v2 (C ++ [47, 42])) := HBC.out.next (N := [47, 42]) rfl hown2 hg2 hne2
              clear hown2 hg2 hne2
              go_wp2
              have HEX : Hid ((bs (t.extract p1 p2)).length ≤ t.size) := by
                show _ ≤ _
                rw [bs_length, ByteArray.size_extract]; omega
              have hexs : (t.extract p1 p2).size ≤ 1048576 := by rw [ByteArray.size_extract]; omega
              go_region_held3 (fun _ => True) (trivial) ((go_at_call 29; (refine (harmless_any w.heap.size w v2 (C ++ [47, 42]) (t.extract p1 p2) _ HB2.out.drew (by simp; omega) hexs).mono ?_); rintro e w3 ⟨v3, rfl, B3⟩; have HB3 : Hid (Buf w.heap.size w w3 v3 ((C ++ [47, 42]) ++ Pl.harmless (bs (t.extract p1 p2)))) := B3; clear B3))
              have HB4 : Hid (Buf w.heap.size w w3 v3 (D ++ Pl.opens (ts ++ [bs (t.extract p1 p2)]))) := HB3.out.cast (by rw [opens_snoc, HC.out]; simp)
              have HR4 : Hid (∀ x ∈ ts ++ [bs (t.extract p1 p2)], x.length ≤ t.size ∧ ∀ y ∈ x, 0 ≤ y ∧ y ≤ 255) := by
                intro x hx
                rcases List.mem_append.1 hx with hx | hx
                · exact HR.out x hx
                · simp at hx; subst hx; exact ⟨HEX.out, bs_range _⟩
              have HQ4 : Hid ((ts ++ [bs (t.extract p1 p2)]).length = q + 1) := by
                show _ = _
                rw [List.length_append, HQ.out]; rfl
              clear HB3 HB2 HBC e1 e2 e3 e4 wA wA2 wp1 wp2 g1' g2' g3'
              go_wp2
              go_roundw
              case rel => exact ⟨q + 1, ts ++ [bs (t.extract p1 p2)], by omega, by go_num, HQ4, HB4, HR4⟩
              case measure => simp [intOf]; omega
            · have HQD : Hid (ts.length = dn) := by
                show _ = _
                rw [HQ.out]; omega
              go_wp2
              go_loopw [6, 13] (fun u j wx => ∃ q : Nat, q ≤ dn ∧ j = .int .i64 q ∧ Hid (Buf w.heap.size w wx u (D ++ Pl.opens ts ++ Pl.closes q))) (fun _ j _ => dn - (intOf j).toNat)
              case atStart => exact ⟨0, by omega, by go_num, HBq.out.cast (by simp [Pl.closes])⟩
              case round =>
                obtain ⟨z, hz, rfl, HBz⟩ := hrel
                by_cases hzd : z < dn
                · obtain ⟨C, hC⟩ : ∃ C, C = D ++ Pl.opens ts ++ Pl.closes z := ⟨_, rfl⟩
                  have HBC : Hid (Buf w.heap.size w wr u6 C) := HBz.out.cast hC.symm
                  have hCl : C.length ≤ D.length + 8 * t.size + 8 + 8 := by
                    rw [hC]; simp only [List.length_append, closes_len]; omega
                  have HC : Hid (C = D ++ Pl.opens ts ++ Pl.closes z) := hC
                  clear hC HBz HBq
                  go_wp2_with (at_builtin; refine wpList_append_own _ rfl (.tmp 73) (.tmp 74) 27 rfl w.heap.size 5 i0 (.int .u8 0) 1 1 Try.underlying27 hi hz0 hz1 hz2 rfl (by decide) u6 C.length (C.map (Value.int .u8)) rfl (HBC.out.own.alloc _) ⟨wr.heap.size, 0, none⟩ 2 2 [.int .u8 42, .int .u8 47] rfl rfl (cell_two_new _ _ _ _) (by intro u hu; simp at hu; rcases hu with hu | hu <;> subst hu <;> rfl) (by unfold maxLen; omega) (by omega) (by have := HBC.out.le; simp; omega) ?_)
                  intro v2 w2 hown2 hg2 hne2
                  have HB2 : Hid (Buf w.heap.size w w2 v2 (D ++ Pl.opens ts ++ Pl.closes (z + 1))) := (HBC.out.next (N := [42, 47]) rfl hown2 hg2 hne2).cast (by rw [closes_snoc, HC.out]; simp)
                  clear hown2 hg2 hne2
                  go_wp2
                  go_roundw
                  case rel => exact ⟨z + 1, by omega, by go_num, HB2⟩
                  case measure => simp [intOf]; omega
                · obtain ⟨d1, hd1'⟩ : ∃ d1, dn = d1 + 1 := ⟨dn - 1, by omega⟩
                  have hze : z = d1 + 1 := by omega
                  have HG4 : Hid (Good (D ++ (Pl.opens ts ++ Pl.closes (d1 + 1)))) := HGD.out.app (good_block ts d1 (by rw [HQD.out]; exact hd1') (fun x hx => (HR.out x hx).2))
                  have HB4 : Hid (Buf w.heap.size w wr u6 (D ++ (Pl.opens ts ++ Pl.closes (d1 + 1)))) := HBz.out.cast (by rw [hze, List.append_assoc])
                  have HLL : Hid ((D ++ (Pl.opens ts ++ Pl.closes (d1 + 1))).length ≤ 16 * (k + 1) + 8 * sz S (k + 1)) := by
                    show _ ≤ _
                    rw [HS1.out]
                    have := HDK.out
                    simp only [List.length_append, closes_len]; omega
                  clear hd1' hze HBz HBq
                  go_wp2
                  go_roundw
                  case rel => exact ⟨k + 1, D ++ (Pl.opens ts ++ Pl.closes (d1 + 1)), by omega, by go_num, HB4, HG4, HLL⟩
                  case measure => simp [intOf]; omega
      · go_wp2
        go_ret
        exact ⟨u6, D, rfl, HB.out, HGD.out, by
          have h1 := HL.out
          have h2 := Nat.le_trans (sz_mono S hk) HSZ.out
          omega⟩
end Go.Proofs.Qxb6600826a
