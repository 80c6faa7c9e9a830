/-
  THE LAW FnPlainFieldFindsJoinedField, WALKED, ITS BODY.
-/
import Derived.Test.Qxb6600576aWalkE
namespace Go.Proofs.Qxb6600576a.Join
open Go.RowKit
set_option linter.unusedSimpArgs false
set_option linter.unusedVariables false

theorem fs_getD (S : List ByteArray) (k : Nat) : (S.map bs).getD k [] = bs (S.getD k ByteArray.empty) := by
  simp only [List.getD_eq_getElem?_getD, List.getElem?_map]
  cases S[k]? <;> rfl

theorem fs_len (S : List ByteArray) (k : Nat) : ((S.map bs).getD k []).length = (S.getD k ByteArray.empty).size := by
  rw [fs_getD, bs_length]

set_option maxRecDepth 100000 in
set_option maxHeartbeats 4000000 in
theorem walk (a0 : Option Addr) (len0 cap0 : Nat) (ss : List ByteArray) (a1 a2 : Int) (w : World) (w0 : RowS w a0 len0 cap0 ss) (w1 : (Lit.int .u8 a1).wf = true) (w2 : (Lit.int .i64 a2).wf = true) :
    Calls Try.prog 5 #[.slice a0 len0 cap0, .int .u8 a1, .int .i64 a2] w fun e w' => e = .returned (.bool true) ∧ Below w.heap.size w w' := by
  obtain ⟨m0, hdl, hSm, hX⟩ := rowS_cells w0
  obtain ⟨S, hSd⟩ : ∃ S, S = ss.take len0 := ⟨_, rfl⟩
  rw [← hSd] at hdl hSm hX
  obtain ⟨fs, hfs⟩ : ∃ fs, fs = S.map bs := ⟨_, rfl⟩
  have hfl : fs.length = len0 := by rw [hfs, List.length_map]; exact hdl
  have HG : Hid (∀ k, fs.getD k [] = bs (S.getD k ByteArray.empty)) := fun k => by rw [hfs]; exact fs_getD S k
  have HX := show Hid _ from hX
  have HSM := show Hid _ from hSm
  have HFL : Hid (fs.length = len0) := hfl
  have ha1 := bounds_u8 w1
  have HDL : Hid (S.length = len0) := hdl
  clear hX hSm w0 w1 w2 hSd hdl hfs hfl
  go_enter Try.func5, Try.ntmps5
  go_wp2_with fail
  refine (bytes_any a0 len0 cap0 a1 a2 S w m0 HSM.out HX.out).mono ?_
  rintro e w' ⟨⟨b, rfl, hG⟩, rfl⟩
  unfold maxLen at m0
  cases b
  · go_wp2
    go_ret
    exact ⟨rfl, Below.refl _ _⟩
  · obtain ⟨hl20, hsz⟩ := hG rfl
    have HSZ := show Hid _ from hsz
    clear hG hsz
    by_cases h16 : len0 ≤ 65536
    · go_wp2
      go_loop [7, 8] (fun t i => ∃ k tt : Nat, k ≤ len0 ∧ tt ≤ 1048576 ∧ i = .int .i64 k ∧ t = .int .i64 tt ∧ Hid (tt = Pl.tot (fs.take k))) (fun _ i => len0 - (intOf i).toNat)
      case atStart => exact ⟨0, 0, by omega, by omega, by go_num, by go_num, rfl⟩
      case round =>
        obtain ⟨k, tt, hk, htt, rfl, rfl, HK⟩ := hrel
        by_cases hkl : k < len0
        · obtain ⟨b, off, rfl, hcc⟩ := HX.out (by omega)
          have hs := HSZ.out k hkl
          obtain ⟨s, hsd⟩ : ∃ s, s = S.getD k ByteArray.empty := ⟨_, rfl⟩
          rw [← hsd] at hs
          have hcell : w'.cell? ⟨b, off + k, none⟩ = some (.string s) := by rw [hcc k hkl, hsd]
          have HT : Hid (tt + (16 + s.size) = Pl.tot (fs.take (k + 1))) := by
            show _ = _
            rw [Pl.tot_take_succ fs k (by have := HFL.out; omega), HG.out k, bs_length, ← hsd, HK.out]
          clear hcc hsd
          go_wp2
          all_goals first
            | (go_ret; exact ⟨rfl, Below.refl _ _⟩)
            | (go_round
               case rel => exact ⟨k + 1, tt + (16 + s.size), by omega, by omega, by go_num, by go_num, HT⟩
               case measure => simp [intOf]; omega)
        · obtain rfl : k = len0 := by omega
          have HK' : Hid (tt = Pl.tot fs) := by
            have h := HK.out
            rwa [List.take_of_length_le (by have := HFL.out; omega)] at h
          clear HK
          by_cases hcol : a2 < 0 ∨ (k : Int) ≤ a2
          · rcases hcol with h | h
            · go_wp2
              go_ret
              exact ⟨rfl, Below.refl _ _⟩
            · go_wp2
              go_ret
              exact ⟨rfl, Below.refl _ _⟩
          · obtain ⟨col, rfl⟩ := Int.eq_ofNat_of_zero_le (show 0 ≤ a2 by omega)
            have hck : col < k := by omega
            clear hcol hkl hk
            obtain ⟨b, off, rfl, hcc⟩ := HX.out (by omega)
            have HCC := show Hid _ from hcc
            clear hcc HX
            go_wp2
            go_loop [9] (fun i => ∃ j : Nat, j ≤ k ∧ i = .int .i64 j ∧ Hid (∀ q, q < j → ∀ x ∈ fs.getD q [], x ≠ 44)) (fun i => k - (intOf i).toNat)
            case atStart => exact ⟨0, by omega, by go_num, fun q hq => by omega⟩
            case round =>
              obtain ⟨j, hj, rfl, HJ⟩ := hrel
              by_cases hjk : j < k
              · obtain ⟨s, hsd⟩ : ∃ s, s = S.getD j ByteArray.empty := ⟨_, rfl⟩
                have hcell : w'.cell? ⟨b, off + j, none⟩ = some (.string s) := by rw [HCC.out j hjk, hsd]
                have HSS : Hid (s.size ≤ maxLen) := by rw [hsd]; exact HSM.out j
                have HGJ : Hid (fs.getD j [] = bs s) := by rw [hsd]; exact HG.out j
                clear hsd
                go_wp2_with fail
                refine (firstIndex_any s _ HSS.out).mono ?_
                rintro e w'' ⟨⟨v, rfl, hv⟩, rfl⟩
                rcases hv with hv | ⟨rfl, hv⟩
                · go_wp2
                  go_ret
                  exact ⟨rfl, Below.refl _ _⟩
                · have HV := show Hid _ from hv
                  clear hv
                  go_wp2
                  go_round
                  case rel =>
                    refine ⟨j + 1, by omega, by go_num, fun q hq => ?_⟩
                    by_cases hqj : q < j
                    · exact HJ.out q hqj
                    · obtain rfl : q = j := by omega
                      rw [HGJ.out]; exact HV.out
                  case measure => simp [intOf]; omega
              · have HFREE : Hid (∀ q, q < k → ∀ x ∈ fs.getD q [], x ≠ 44) := fun q hq => HJ.out q (by omega)
                clear HJ
                obtain ⟨sl, hsd⟩ : ∃ s, s = S.getD (k - 1) ByteArray.empty := ⟨_, rfl⟩
                have hcell : w'.cell? ⟨b, off + (k - 1), none⟩ = some (.string sl) := by rw [HCC.out (k - 1) (by omega), hsd]
                have hsl : sl.size ≤ 1048576 := by rw [hsd]; exact HSZ.out (k - 1) (by omega)
                have HGL : Hid (fs.getD (k - 1) [] = bs sl) := by rw [hsd]; exact HG.out (k - 1)
                clear hsd
                by_cases hs0 : sl.size = 0
                · have HLAST : Hid (0 < (fs.getD (k - 1) []).length → (fs.getD (k - 1) []).getD ((fs.getD (k - 1) []).length - 1) 0 ≠ 10 ∧ (fs.getD (k - 1) []).getD ((fs.getD (k - 1) []).length - 1) 0 ≠ 13) := by
                    intro h
                    rw [HGL.out, bs_length] at h
                    omega
                  go_wp2_with fail
                  refine (cloneStrings_any ⟨b, off, none⟩ k cap0 S _ HDL.out (by omega) (fun j hj => by rw [Addr.add_lit]; exact HCC.out j hj)).mono ?_
                  rintro e w1 ⟨rfl, B1, hs1, hc1⟩
                  have HB1 : Hid (Below w'.heap.size w' w1) := B1
                  have HC1 : Hid (∀ j, j < k → w1.cell? ⟨w'.heap.size, j, none⟩ = some (.string (S.getD j ByteArray.empty))) := hc1
                  clear B1 hc1 HCC hcell
                  obtain ⟨i0, hi, hz0, hz1, hz2⟩ := info_parts info5
                  go_wp2_with (at_make; refine wpList_make_own _ rfl _ _ 29 rfl w1.heap.size 5 i0 (.int .u8 0) 1 Try.underlying29 hi hz0 hz1 _ _ _ (tt + 2) rfl rfl (by omega) (by rw [hz2]; omega) (by unfold maxLen; omega) (Nat.le_refl _) ?_)
                  intro w2 hown2 hg2
                  have HB2 : Hid (Below w1.heap.size w1 w2) := (Below.refl _ _).grown hg2 (Nat.le_refl _) (by simp)
                  have HO2 : Hid (w2.ownsRow w1.heap.size 5 1 (.slice (some ⟨w1.heap.size, 0, none⟩) 0 (tt + 2)) 0 []) := hown2
                  clear hown2 hg2
                  go_wp2
                  go_loopw [11, 12] (fun v i wr => ∃ (q : Nat) (J : List Int), q ≤ k ∧ i = .int .i64 q ∧ v = .slice (some ⟨w1.heap.size, 0, none⟩) J.length (tt + 2) ∧ Hid (J = Pl.join (fs.take q)) ∧ Hid (wr.ownsRow w1.heap.size 5 1 (.slice (some ⟨w1.heap.size, 0, none⟩) J.length (tt + 2)) J.length (J.map (Value.int .u8))) ∧ Hid (Below w1.heap.size w1 wr)) (fun _ i _ => k - (intOf i).toNat)
                  case atStart => exact ⟨0, [], by omega, by go_num, rfl, rfl, HO2, HB2⟩
                  case round =>
                    obtain ⟨q, J, hq, rfl, rfl, HJ, HO, HBr⟩ := hrel
                    by_cases hqk : q < k
                    · obtain ⟨s, hsd⟩ : ∃ s, s = S.getD q ByteArray.empty := ⟨_, rfl⟩
                      have hbq := HC1.out q hqk
                      rw [← hsd] at hbq
                      have HGQ : Hid (fs.getD q [] = bs s) := by rw [hsd]; exact HG.out q
                      have hroom : J.length + 1 + s.size ≤ tt := by
                        have h := Pl.join_take_room fs q (by have := HFL.out; omega)
                        rw [← HJ.out, HGQ.out, bs_length] at h
                        rw [HK'.out]; exact h
                      have HCQ : Hid (w1.cell? ⟨w'.heap.size, q, none⟩ = some (.string s)) := hbq
                      clear hsd hbq
                      have hjs := Pl.join_take_succ fs q (by have := HFL.out; omega)
                      rw [HGQ.out, ← HJ.out] at hjs
                      have HJS := show Hid _ from hjs
                      clear hjs
                      by_cases hq0 : q = 0
                      · have hcellq : wr.cell? ⟨w'.heap.size, q, none⟩ = some (.string s) := by rw [HBr.out.cell (by exact hs1)]; exact HCQ.out
                        have hq0' : q ≤ 0 := by omega
                        have HJS2 : Hid (Pl.join (fs.take (q + 1)) = bs s) := by
                          have h := HJS.out
                          rwa [if_pos hq0] at h
                        have HJ0 : Hid (J = []) := by
                          show _ = _
                          rw [HJ.out, hq0]; rfl
                        clear hq0
                        go_wp2_with (at_builtin; refine wpList_append_fits_string _ rfl (.tmp 102) (.tmp 106) 29 9 rfl w1.heap.size 5 i0 Try.underlying29 Try.underlying9 hi hz1 w1.heap.size J.length (tt + 2) (J.map (Value.int .u8)) rfl HO.out s rfl (by omega) ?_)
                        intro w3 hown3 hg3
                        have HO3 : Hid (w3.ownsRow w1.heap.size 5 1 (.slice (some ⟨w1.heap.size, 0, none⟩) (bs s).length (tt + 2)) (bs s).length ((bs s).map (Value.int .u8))) := by
                          have h := hown3
                          rw [HJ0.out, strCells_bs] at h
                          refine (show World.ownsRow _ _ _ _ _ _ _ from ?_)
                          simpa [bs_length] using h
                        have HB3 : Hid (Below w1.heap.size w1 w3) := HBr.out.grown hg3 HBr.out.size (by simp)
                        have hjl : J.length = 0 := by rw [HJ0.out]; rfl
                        clear hown3 hg3
                        go_wp2
                        go_roundw
                        case rel => exact ⟨q + 1, bs s, by omega, by go_num, by rw [hjl, bs_length, Nat.zero_add], HJS2.out.symm, HO3, HB3⟩
                        case measure => simp [intOf]; omega
                      · have hq0' : 0 < q := by omega
                        have HJS2 : Hid (Pl.join (fs.take (q + 1)) = J ++ 44 :: bs s) := by
                          have h := HJS.out
                          rwa [if_neg hq0] at h
                        clear hq0
                        go_wp2_with (at_builtin; refine wpList_append_fits _ rfl (.tmp 99) (.tmp 100) 29 rfl w1.heap.size 5 i0 1 Try.underlying29 hi hz1 w1.heap.size J.length (tt + 2) (J.map (Value.int .u8)) rfl (HO.out.alloc _) ⟨wr.heap.size, 0, none⟩ 1 1 [.int .u8 44] rfl rfl (cell_one_new _ _ _) (by intro u hu; simp at hu; subst hu; rfl) (by omega) ?_)
                        intro w3 hown3 hg3
                        have HB3 : Hid (Below w1.heap.size w1 w3) := (HBr.out.alloc HBr.out.size _).grown hg3 (by have := HBr.out.size; simp; omega) (by simp)
                        have hcellq : w3.cell? ⟨w'.heap.size, q, none⟩ = some (.string s) := by rw [HB3.out.cell (by exact hs1)]; exact HCQ.out
                        have HO3 : Hid (w3.ownsRow w1.heap.size 5 1 (.slice (some ⟨w1.heap.size, 0, none⟩) (J.length + 1) (tt + 2)) (J.length + 1) (J.map (Value.int .u8) ++ [.int .u8 44])) := hown3
                        clear hown3 hg3
                        go_wp2_with (at_builtin; refine wpList_append_fits_string _ rfl (.tmp 102) (.tmp 106) 29 9 rfl w1.heap.size 5 i0 Try.underlying29 Try.underlying9 hi hz1 w1.heap.size (J.length + 1) (tt + 2) _ rfl HO3.out s rfl (by omega) ?_)
                        intro w4 hown4 hg4
                        have hlen : (J ++ 44 :: bs s).length = J.length + 1 + s.size := by simp [bs_length]; omega
                        have HO4 : Hid (w4.ownsRow w1.heap.size 5 1 (.slice (some ⟨w1.heap.size, 0, none⟩) (J ++ 44 :: bs s).length (tt + 2)) (J ++ 44 :: bs s).length ((J ++ 44 :: bs s).map (Value.int .u8))) := by
                          have h := hown4
                          rw [strCells_bs] at h
                          rw [hlen]
                          refine (show World.ownsRow _ _ _ _ _ _ _ from ?_)
                          simpa using h
                        have HB4 : Hid (Below w1.heap.size w1 w4) := HB3.out.grown hg4 HB3.out.size (by simp)
                        clear hown4 hg4
                        have HLEN := show Hid _ from hlen
                        clear hlen
                        go_wp2
                        go_roundw
                        case rel => exact ⟨q + 1, J ++ 44 :: bs s, by omega, by go_num, by rw [HLEN.out], HJS2.out.symm, HO4, HB4⟩
                        case measure => simp [intOf]; omega
                    · obtain rfl : q = k := by omega
                      have HJF : Hid (J = Pl.join fs) := by
                        have h := HJ.out
                        rwa [List.take_of_length_le (by have := HFL.out; omega)] at h
                      have hJT : J.length ≤ tt := by
                        have h := Pl.join_le_tot fs
                        rw [← HJF.out, ← HK'.out] at h
                        exact h
                      clear HJ
                      obtain ⟨ha1l, ha1u⟩ := ha1
                      rcases (show a1 % 3 = 0 ∨ a1 % 3 = 1 ∨ a1 % 3 = 2 from by omega) with h3 | h3 | h3
                      · have r1 : (a1 % 3 == 1) = false := by rw [h3]; rfl
                        have r2 : (a1 % 3 == 2) = false := by rw [h3]; rfl
                        clear h3
                        have HOE : Hid (wr.ownsRow w1.heap.size 5 1 (.slice (some ⟨w1.heap.size, 0, none⟩) J.length (tt + 2)) J.length ((J ++ []).map (Value.int .u8))) := by
                          refine (show World.ownsRow _ _ _ _ _ _ _ from ?_)
                          rw [List.append_nil]; exact HO.out
                        have HRG : Hid (∀ x ∈ J ++ [], 0 ≤ x ∧ x ≤ 255) := by
                          intro x hx
                          rcases List.mem_append.1 hx with hx | hx
                          · rw [HJF.out] at hx
                            refine Pl.join_range fs (fun a ha => ?_) x hx
                            obtain ⟨m, _, rfl⟩ := Pl.mem_getD fs a ha
                            rw [HG.out m]
                            exact bs_range _
                          · simp at hx
                            try omega
                        go_wp2_with fail
                        refine (zz_own w1.heap.size _ J.length (tt + 2) col (J ++ []) _ (own_of_row HRG.out HOE.out) (fun h => by cases h) (fun h => by
                          have h1 := Pl.join_nil_len fs (by rw [← HJF.out]; omega)
                          rw [HFL.out] at h1
                          omega) (by omega) (by omega) (by omega)).mono ?_
                        rintro e wf ⟨rfl, rfl⟩
                        obtain ⟨hj1, hj2⟩ := Pl.joined fs (q - 1) (by rw [HFL.out]; omega) (fun a ha => by obtain ⟨m, hm, rfl⟩ := Pl.mem_getD fs a ha; rw [HFL.out] at hm; exact HFREE.out m hm) HLAST.out [] (by simp) col (by rw [HFL.out]; exact hck)
                        rw [← HJF.out] at hj1 hj2
                        rw [hj1, hj2]
                        clear hj1 hj2
                        obtain ⟨sc, hscd⟩ : ∃ s, s = S.getD col ByteArray.empty := ⟨_, rfl⟩
                        have hscl : (fs.getD col []).length = sc.size := by rw [HG.out col, bs_length, hscd]
                        rw [hscl]
                        have hpt : Pl.pre fs col ≤ tt := by rw [HK'.out]; exact Pl.pre_le_tot fs col
                        have hcellc : wf.cell? ⟨w'.heap.size, col, none⟩ = some (.string sc) := by rw [HBr.out.cell (by exact hs1), HC1.out col hck, hscd]
                        have hscs : sc.size ≤ 1048576 := by rw [hscd]; exact HSZ.out col hck
                        obtain ⟨P, hP⟩ : ∃ P, P = Pl.pre fs col := ⟨_, rfl⟩
                        rw [← hP] at hpt
                        rw [← hP]
                        have HP : Hid (P = Pl.pre fs col) := hP
                        clear hP hscl hscd HOE HRG
                        go_wp2
                        go_loop [15, 16] (fun v i => ∃ m pp : Nat, m ≤ col ∧ pp ≤ tt ∧ i = .int .i64 m ∧ v = .int .i64 pp ∧ Hid (pp = Pl.pre fs m)) (fun _ i => col - (intOf i).toNat)
                        case atStart => exact ⟨0, 0, by omega, by omega, by go_num, by go_num, by simp [Hid, Pl.pre]⟩
                        case round =>
                          obtain ⟨m, pp, hm, hpp, rfl, rfl, HM⟩ := hrel
                          by_cases hmc : m < col
                          · obtain ⟨s, hsd⟩ : ∃ s, s = S.getD m ByteArray.empty := ⟨_, rfl⟩
                            have hcellm : wf.cell? ⟨w'.heap.size, m, none⟩ = some (.string s) := by rw [HBr.out.cell (by exact hs1), HC1.out m (by omega), hsd]
                            have hss : s.size ≤ 1048576 := by rw [hsd]; exact HSZ.out m (by omega)
                            have HM2 : Hid (pp + (s.size + 1) = Pl.pre fs (m + 1)) := by
                              show _ = _
                              rw [Pl.pre_succ fs m (by rw [HFL.out]; omega), HG.out m, bs_length, ← hsd, HM.out]
                            have hle : pp + (s.size + 1) ≤ tt := by rw [HM2.out, HK'.out]; exact Pl.pre_le_tot fs (m + 1)
                            clear hsd
                            go_wp2
                            go_round
                            case rel => exact ⟨m + 1, pp + (s.size + 1), by omega, by omega, by go_num, by go_num, HM2⟩
                            case measure => simp [intOf]; omega
                          · obtain rfl : m = col := by omega
                            obtain rfl : pp = P := by rw [HM.out, HP.out]
                            have e1 : ((pp : Int) == (pp : Int)) = true := by simp
                            have e2 : (((pp + sc.size : Nat) : Int) == (pp : Int) + (sc.size : Int)) = true := by rw [beq_iff_eq]; omega
                            go_wp2
                            go_ret
                            refine ⟨rfl, ?_⟩
                            exact HB1.out.trans (HBr.out.mono (Nat.le_of_lt hs1))
                      · have r1 : (a1 % 3 == 1) = true := by rw [h3]; rfl
                        have r2 : (a1 % 3 == 2) = false := by rw [h3]; rfl
                        clear h3
                        go_wp2_with (at_builtin; refine wpList_append_fits _ rfl (.tmp 112) (.tmp 113) 29 rfl w1.heap.size 5 i0 1 Try.underlying29 hi hz1 w1.heap.size J.length (tt + 2) (J.map (Value.int .u8)) rfl (HO.out.alloc _) ⟨wr.heap.size, 0, none⟩ 1 1 [.int .u8 10] rfl rfl (cell_one_new _ _ _) (by intro u hu; simp at hu; subst hu; rfl) (by omega) ?_)
                        intro w3 hown3 hg3
                        have HB3 : Hid (Below w1.heap.size w1 w3) := (HBr.out.alloc HBr.out.size _).grown hg3 (by have := HBr.out.size; simp; omega) (by simp)
                        have HO3 : Hid (w3.ownsRow w1.heap.size 5 1 (.slice (some ⟨w1.heap.size, 0, none⟩) (J.length + 1) (tt + 2)) (J.length + 1) ((J ++ [10]).map (Value.int .u8))) := by
                          refine (show World.ownsRow _ _ _ _ _ _ _ from ?_)
                          rw [List.map_append]; exact hown3
                        clear hown3 hg3
                        have HRG : Hid (∀ x ∈ J ++ [10], 0 ≤ x ∧ x ≤ 255) := by
                          intro x hx
                          rcases List.mem_append.1 hx with hx | hx
                          · rw [HJF.out] at hx
                            refine Pl.join_range fs (fun a ha => ?_) x hx
                            obtain ⟨m, _, rfl⟩ := Pl.mem_getD fs a ha
                            rw [HG.out m]
                            exact bs_range _
                          · simp at hx
                            try omega
                        go_wp2_with fail
                        refine (zz_own w1.heap.size _ (J.length + 1) (tt + 2) col (J ++ [10]) _ (own_of_row HRG.out HO3.out) (fun h => by cases h) (fun h => by
                          have h1 := Pl.join_nil_len fs (by rw [← HJF.out]; omega)
                          rw [HFL.out] at h1
                          omega) (by omega) (by omega) (by omega)).mono ?_
                        rintro e wf ⟨rfl, rfl⟩
                        obtain ⟨hj1, hj2⟩ := Pl.joined fs (q - 1) (by rw [HFL.out]; omega) (fun a ha => by obtain ⟨m, hm, rfl⟩ := Pl.mem_getD fs a ha; rw [HFL.out] at hm; exact HFREE.out m hm) HLAST.out [10] (by simp) col (by rw [HFL.out]; exact hck)
                        rw [← HJF.out] at hj1 hj2
                        rw [hj1, hj2]
                        clear hj1 hj2
                        obtain ⟨sc, hscd⟩ : ∃ s, s = S.getD col ByteArray.empty := ⟨_, rfl⟩
                        have hscl : (fs.getD col []).length = sc.size := by rw [HG.out col, bs_length, hscd]
                        rw [hscl]
                        have hpt : Pl.pre fs col ≤ tt := by rw [HK'.out]; exact Pl.pre_le_tot fs col
                        have hcellc : wf.cell? ⟨w'.heap.size, col, none⟩ = some (.string sc) := by rw [HB3.out.cell (by exact hs1), HC1.out col hck, hscd]
                        have hscs : sc.size ≤ 1048576 := by rw [hscd]; exact HSZ.out col hck
                        obtain ⟨P, hP⟩ : ∃ P, P = Pl.pre fs col := ⟨_, rfl⟩
                        rw [← hP] at hpt
                        rw [← hP]
                        have HP : Hid (P = Pl.pre fs col) := hP
                        clear hP hscl hscd HO3 HRG
                        go_wp2
                        go_loop [15, 16] (fun v i => ∃ m pp : Nat, m ≤ col ∧ pp ≤ tt ∧ i = .int .i64 m ∧ v = .int .i64 pp ∧ Hid (pp = Pl.pre fs m)) (fun _ i => col - (intOf i).toNat)
                        case atStart => exact ⟨0, 0, by omega, by omega, by go_num, by go_num, by simp [Hid, Pl.pre]⟩
                        case round =>
                          obtain ⟨m, pp, hm, hpp, rfl, rfl, HM⟩ := hrel
                          by_cases hmc : m < col
                          · obtain ⟨s, hsd⟩ : ∃ s, s = S.getD m ByteArray.empty := ⟨_, rfl⟩
                            have hcellm : wf.cell? ⟨w'.heap.size, m, none⟩ = some (.string s) := by rw [HB3.out.cell (by exact hs1), HC1.out m (by omega), hsd]
                            have hss : s.size ≤ 1048576 := by rw [hsd]; exact HSZ.out m (by omega)
                            have HM2 : Hid (pp + (s.size + 1) = Pl.pre fs (m + 1)) := by
                              show _ = _
                              rw [Pl.pre_succ fs m (by rw [HFL.out]; omega), HG.out m, bs_length, ← hsd, HM.out]
                            have hle : pp + (s.size + 1) ≤ tt := by rw [HM2.out, HK'.out]; exact Pl.pre_le_tot fs (m + 1)
                            clear hsd
                            go_wp2
                            go_round
                            case rel => exact ⟨m + 1, pp + (s.size + 1), by omega, by omega, by go_num, by go_num, HM2⟩
                            case measure => simp [intOf]; omega
                          · obtain rfl : m = col := by omega
                            obtain rfl : pp = P := by rw [HM.out, HP.out]
                            have e1 : ((pp : Int) == (pp : Int)) = true := by simp
                            have e2 : (((pp + sc.size : Nat) : Int) == (pp : Int) + (sc.size : Int)) = true := by rw [beq_iff_eq]; omega
                            go_wp2
                            go_ret
                            refine ⟨rfl, ?_⟩
                            exact HB1.out.trans (HB3.out.mono (Nat.le_of_lt hs1))
                      · have r1 : (a1 % 3 == 1) = false := by rw [h3]; rfl
                        have r2 : (a1 % 3 == 2) = true := by rw [h3]; rfl
                        clear h3
                        go_wp2_with (at_builtin; refine wpList_append_fits _ rfl (.tmp 117) (.tmp 118) 29 rfl w1.heap.size 5 i0 1 Try.underlying29 hi hz1 w1.heap.size J.length (tt + 2) (J.map (Value.int .u8)) rfl (HO.out.alloc _) ⟨wr.heap.size, 0, none⟩ 2 2 [.int .u8 13, .int .u8 10] rfl rfl (cell_two_new _ _ _ _) (by intro u hu; simp at hu; rcases hu with hu | hu <;> subst hu <;> rfl) (by omega) ?_)
                        intro w3 hown3 hg3
                        have HB3 : Hid (Below w1.heap.size w1 w3) := (HBr.out.alloc HBr.out.size _).grown hg3 (by have := HBr.out.size; simp; omega) (by simp)
                        have HO3 : Hid (w3.ownsRow w1.heap.size 5 1 (.slice (some ⟨w1.heap.size, 0, none⟩) (J.length + 2) (tt + 2)) (J.length + 2) ((J ++ [13, 10]).map (Value.int .u8))) := by
                          refine (show World.ownsRow _ _ _ _ _ _ _ from ?_)
                          rw [List.map_append]; exact hown3
                        clear hown3 hg3
                        have HRG : Hid (∀ x ∈ J ++ [13, 10], 0 ≤ x ∧ x ≤ 255) := by
                          intro x hx
                          rcases List.mem_append.1 hx with hx | hx
                          · rw [HJF.out] at hx
                            refine Pl.join_range fs (fun a ha => ?_) x hx
                            obtain ⟨m, _, rfl⟩ := Pl.mem_getD fs a ha
                            rw [HG.out m]
                            exact bs_range _
                          · simp at hx
                            try omega
                        go_wp2_with fail
                        refine (zz_own w1.heap.size _ (J.length + 2) (tt + 2) col (J ++ [13, 10]) _ (own_of_row HRG.out HO3.out) (fun h => by cases h) (fun h => by
                          have h1 := Pl.join_nil_len fs (by rw [← HJF.out]; omega)
                          rw [HFL.out] at h1
                          omega) (by omega) (by omega) (by omega)).mono ?_
                        rintro e wf ⟨rfl, rfl⟩
                        obtain ⟨hj1, hj2⟩ := Pl.joined fs (q - 1) (by rw [HFL.out]; omega) (fun a ha => by obtain ⟨m, hm, rfl⟩ := Pl.mem_getD fs a ha; rw [HFL.out] at hm; exact HFREE.out m hm) HLAST.out [13, 10] (by simp) col (by rw [HFL.out]; exact hck)
                        rw [← HJF.out] at hj1 hj2
                        rw [hj1, hj2]
                        clear hj1 hj2
                        obtain ⟨sc, hscd⟩ : ∃ s, s = S.getD col ByteArray.empty := ⟨_, rfl⟩
                        have hscl : (fs.getD col []).length = sc.size := by rw [HG.out col, bs_length, hscd]
                        rw [hscl]
                        have hpt : Pl.pre fs col ≤ tt := by rw [HK'.out]; exact Pl.pre_le_tot fs col
                        have hcellc : wf.cell? ⟨w'.heap.size, col, none⟩ = some (.string sc) := by rw [HB3.out.cell (by exact hs1), HC1.out col hck, hscd]
                        have hscs : sc.size ≤ 1048576 := by rw [hscd]; exact HSZ.out col hck
                        obtain ⟨P, hP⟩ : ∃ P, P = Pl.pre fs col := ⟨_, rfl⟩
                        rw [← hP] at hpt
                        rw [← hP]
                        have HP : Hid (P = Pl.pre fs col) := hP
                        clear hP hscl hscd HO3 HRG
                        go_wp2
                        go_loop [15, 16] (fun v i => ∃ m pp : Nat, m ≤ col ∧ pp ≤ tt ∧ i = .int .i64 m ∧ v = .int .i64 pp ∧ Hid (pp = Pl.pre fs m)) (fun _ i => col - (intOf i).toNat)
                        case atStart => exact ⟨0, 0, by omega, by omega, by go_num, by go_num, by simp [Hid, Pl.pre]⟩
                        case round =>
                          obtain ⟨m, pp, hm, hpp, rfl, rfl, HM⟩ := hrel
                          by_cases hmc : m < col
                          · obtain ⟨s, hsd⟩ : ∃ s, s = S.getD m ByteArray.empty := ⟨_, rfl⟩
                            have hcellm : wf.cell? ⟨w'.heap.size, m, none⟩ = some (.string s) := by rw [HB3.out.cell (by exact hs1), HC1.out m (by omega), hsd]
                            have hss : s.size ≤ 1048576 := by rw [hsd]; exact HSZ.out m (by omega)
                            have HM2 : Hid (pp + (s.size + 1) = Pl.pre fs (m + 1)) := by
                              show _ = _
                              rw [Pl.pre_succ fs m (by rw [HFL.out]; omega), HG.out m, bs_length, ← hsd, HM.out]
                            have hle : pp + (s.size + 1) ≤ tt := by rw [HM2.out, HK'.out]; exact Pl.pre_le_tot fs (m + 1)
                            clear hsd
                            go_wp2
                            go_round
                            case rel => exact ⟨m + 1, pp + (s.size + 1), by omega, by omega, by go_num, by go_num, HM2⟩
                            case measure => simp [intOf]; omega
                          · obtain rfl : m = col := by omega
                            obtain rfl : pp = P := by rw [HM.out, HP.out]
                            have e1 : ((pp : Int) == (pp : Int)) = true := by simp
                            have e2 : (((pp + sc.size : Nat) : Int) == (pp : Int) + (sc.size : Int)) = true := by rw [beq_iff_eq]; omega
                            go_wp2
                            go_ret
                            refine ⟨rfl, ?_⟩
                            exact HB1.out.trans (HB3.out.mono (Nat.le_of_lt hs1))
                · by_cases h10 : ((sl[sl.size - 1].toNat : Int) == 10) = true
                  · go_wp2
                    go_ret
                    exact ⟨rfl, Below.refl _ _⟩
                  · have h10' : ((sl[sl.size - 1].toNat : Int) == 10) = false := by simpa using h10
                    clear h10
                    by_cases h13 : ((sl[sl.size - 1].toNat : Int) == 13) = true
                    · go_wp2
                      go_ret
                      exact ⟨rfl, Below.refl _ _⟩
                    · have h13' : ((sl[sl.size - 1].toNat : Int) == 13) = false := by simpa using h13
                      clear h13
                      have HLAST : Hid (0 < (fs.getD (k - 1) []).length → (fs.getD (k - 1) []).getD ((fs.getD (k - 1) []).length - 1) 0 ≠ 10 ∧ (fs.getD (k - 1) []).getD ((fs.getD (k - 1) []).length - 1) 0 ≠ 13) := by
                        intro h
                        rw [HGL.out, bs_length, bs_get sl (sl.size - 1) (by omega)]
                        exact ⟨beq_eq_false_iff_ne.1 h10', beq_eq_false_iff_ne.1 h13'⟩
                      go_wp2_with fail
                      refine (cloneStrings_any ⟨b, off, none⟩ k cap0 S _ HDL.out (by omega) (fun j hj => by rw [Addr.add_lit]; exact HCC.out j hj)).mono ?_
                      rintro e w1 ⟨rfl, B1, hs1, hc1⟩
                      have HB1 : Hid (Below w'.heap.size w' w1) := B1
                      have HC1 : Hid (∀ j, j < k → w1.cell? ⟨w'.heap.size, j, none⟩ = some (.string (S.getD j ByteArray.empty))) := hc1
                      clear B1 hc1 HCC hcell
                      obtain ⟨i0, hi, hz0, hz1, hz2⟩ := info_parts info5
                      go_wp2_with (at_make; refine wpList_make_own _ rfl _ _ 29 rfl w1.heap.size 5 i0 (.int .u8 0) 1 Try.underlying29 hi hz0 hz1 _ _ _ (tt + 2) rfl rfl (by omega) (by rw [hz2]; omega) (by unfold maxLen; omega) (Nat.le_refl _) ?_)
                      intro w2 hown2 hg2
                      have HB2 : Hid (Below w1.heap.size w1 w2) := (Below.refl _ _).grown hg2 (Nat.le_refl _) (by simp)
                      have HO2 : Hid (w2.ownsRow w1.heap.size 5 1 (.slice (some ⟨w1.heap.size, 0, none⟩) 0 (tt + 2)) 0 []) := hown2
                      clear hown2 hg2
                      go_wp2
                      go_loopw [11, 12] (fun v i wr => ∃ (q : Nat) (J : List Int), q ≤ k ∧ i = .int .i64 q ∧ v = .slice (some ⟨w1.heap.size, 0, none⟩) J.length (tt + 2) ∧ Hid (J = Pl.join (fs.take q)) ∧ Hid (wr.ownsRow w1.heap.size 5 1 (.slice (some ⟨w1.heap.size, 0, none⟩) J.length (tt + 2)) J.length (J.map (Value.int .u8))) ∧ Hid (Below w1.heap.size w1 wr)) (fun _ i _ => k - (intOf i).toNat)
                      case atStart => exact ⟨0, [], by omega, by go_num, rfl, rfl, HO2, HB2⟩
                      case round =>
                        obtain ⟨q, J, hq, rfl, rfl, HJ, HO, HBr⟩ := hrel
                        by_cases hqk : q < k
                        · obtain ⟨s, hsd⟩ : ∃ s, s = S.getD q ByteArray.empty := ⟨_, rfl⟩
                          have hbq := HC1.out q hqk
                          rw [← hsd] at hbq
                          have HGQ : Hid (fs.getD q [] = bs s) := by rw [hsd]; exact HG.out q
                          have hroom : J.length + 1 + s.size ≤ tt := by
                            have h := Pl.join_take_room fs q (by have := HFL.out; omega)
                            rw [← HJ.out, HGQ.out, bs_length] at h
                            rw [HK'.out]; exact h
                          have HCQ : Hid (w1.cell? ⟨w'.heap.size, q, none⟩ = some (.string s)) := hbq
                          clear hsd hbq
                          have hjs := Pl.join_take_succ fs q (by have := HFL.out; omega)
                          rw [HGQ.out, ← HJ.out] at hjs
                          have HJS := show Hid _ from hjs
                          clear hjs
                          by_cases hq0 : q = 0
                          · have hcellq : wr.cell? ⟨w'.heap.size, q, none⟩ = some (.string s) := by rw [HBr.out.cell (by exact hs1)]; exact HCQ.out
                            have hq0' : q ≤ 0 := by omega
                            have HJS2 : Hid (Pl.join (fs.take (q + 1)) = bs s) := by
                              have h := HJS.out
                              rwa [if_pos hq0] at h
                            have HJ0 : Hid (J = []) := by
                              show _ = _
                              rw [HJ.out, hq0]; rfl
                            clear hq0
                            go_wp2_with (at_builtin; refine wpList_append_fits_string _ rfl (.tmp 102) (.tmp 106) 29 9 rfl w1.heap.size 5 i0 Try.underlying29 Try.underlying9 hi hz1 w1.heap.size J.length (tt + 2) (J.map (Value.int .u8)) rfl HO.out s rfl (by omega) ?_)
                            intro w3 hown3 hg3
                            have HO3 : Hid (w3.ownsRow w1.heap.size 5 1 (.slice (some ⟨w1.heap.size, 0, none⟩) (bs s).length (tt + 2)) (bs s).length ((bs s).map (Value.int .u8))) := by
                              have h := hown3
                              rw [HJ0.out, strCells_bs] at h
                              refine (show World.ownsRow _ _ _ _ _ _ _ from ?_)
                              simpa [bs_length] using h
                            have HB3 : Hid (Below w1.heap.size w1 w3) := HBr.out.grown hg3 HBr.out.size (by simp)
                            have hjl : J.length = 0 := by rw [HJ0.out]; rfl
                            clear hown3 hg3
                            go_wp2
                            go_roundw
                            case rel => exact ⟨q + 1, bs s, by omega, by go_num, by rw [hjl, bs_length, Nat.zero_add], HJS2.out.symm, HO3, HB3⟩
                            case measure => simp [intOf]; omega
                          · have hq0' : 0 < q := by omega
                            have HJS2 : Hid (Pl.join (fs.take (q + 1)) = J ++ 44 :: bs s) := by
                              have h := HJS.out
                              rwa [if_neg hq0] at h
                            clear hq0
                            go_wp2_with (at_builtin; refine wpList_append_fits _ rfl (.tmp 99) (.tmp 100) 29 rfl w1.heap.size 5 i0 1 Try.underlying29 hi hz1 w1.heap.size J.length (tt + 2) (J.map (Value.int .u8)) rfl (HO.out.alloc _) ⟨wr.heap.size, 0, none⟩ 1 1 [.int .u8 44] rfl rfl (cell_one_new _ _ _) (by intro u hu; simp at hu; subst hu; rfl) (by omega) ?_)
                            intro w3 hown3 hg3
                            have HB3 : Hid (Below w1.heap.size w1 w3) := (HBr.out.alloc HBr.out.size _).grown hg3 (by have := HBr.out.size; simp; omega) (by simp)
                            have hcellq : w3.cell? ⟨w'.heap.size, q, none⟩ = some (.string s) := by rw [HB3.out.cell (by exact hs1)]; exact HCQ.out
                            have HO3 : Hid (w3.ownsRow w1.heap.size 5 1 (.slice (some ⟨w1.heap.size, 0, none⟩) (J.length + 1) (tt + 2)) (J.length + 1) (J.map (Value.int .u8) ++ [.int .u8 44])) := hown3
                            clear hown3 hg3
                            go_wp2_with (at_builtin; refine wpList_append_fits_string _ rfl (.tmp 102) (.tmp 106) 29 9 rfl w1.heap.size 5 i0 Try.underlying29 Try.underlying9 hi hz1 w1.heap.size (J.length + 1) (tt + 2) _ rfl HO3.out s rfl (by omega) ?_)
                            intro w4 hown4 hg4
                            have hlen : (J ++ 44 :: bs s).length = J.length + 1 + s.size := by simp [bs_length]; omega
                            have HO4 : Hid (w4.ownsRow w1.heap.size 5 1 (.slice (some ⟨w1.heap.size, 0, none⟩) (J ++ 44 :: bs s).length (tt + 2)) (J ++ 44 :: bs s).length ((J ++ 44 :: bs s).map (Value.int .u8))) := by
                              have h := hown4
                              rw [strCells_bs] at h
                              rw [hlen]
                              refine (show World.ownsRow _ _ _ _ _ _ _ from ?_)
                              simpa using h
                            have HB4 : Hid (Below w1.heap.size w1 w4) := HB3.out.grown hg4 HB3.out.size (by simp)
                            clear hown4 hg4
                            have HLEN := show Hid _ from hlen
                            clear hlen
                            go_wp2
                            go_roundw
                            case rel => exact ⟨q + 1, J ++ 44 :: bs s, by omega, by go_num, by rw [HLEN.out], HJS2.out.symm, HO4, HB4⟩
                            case measure => simp [intOf]; omega
                        · obtain rfl : q = k := by omega
                          have HJF : Hid (J = Pl.join fs) := by
                            have h := HJ.out
                            rwa [List.take_of_length_le (by have := HFL.out; omega)] at h
                          have hJT : J.length ≤ tt := by
                            have h := Pl.join_le_tot fs
                            rw [← HJF.out, ← HK'.out] at h
                            exact h
                          clear HJ
                          obtain ⟨ha1l, ha1u⟩ := ha1
                          rcases (show a1 % 3 = 0 ∨ a1 % 3 = 1 ∨ a1 % 3 = 2 from by omega) with h3 | h3 | h3
                          · have r1 : (a1 % 3 == 1) = false := by rw [h3]; rfl
                            have r2 : (a1 % 3 == 2) = false := by rw [h3]; rfl
                            clear h3
                            have HOE : Hid (wr.ownsRow w1.heap.size 5 1 (.slice (some ⟨w1.heap.size, 0, none⟩) J.length (tt + 2)) J.length ((J ++ []).map (Value.int .u8))) := by
                              refine (show World.ownsRow _ _ _ _ _ _ _ from ?_)
                              rw [List.append_nil]; exact HO.out
                            have HRG : Hid (∀ x ∈ J ++ [], 0 ≤ x ∧ x ≤ 255) := by
                              intro x hx
                              rcases List.mem_append.1 hx with hx | hx
                              · rw [HJF.out] at hx
                                refine Pl.join_range fs (fun a ha => ?_) x hx
                                obtain ⟨m, _, rfl⟩ := Pl.mem_getD fs a ha
                                rw [HG.out m]
                                exact bs_range _
                              · simp at hx
                                try omega
                            go_wp2_with fail
                            refine (zz_own w1.heap.size _ J.length (tt + 2) col (J ++ []) _ (own_of_row HRG.out HOE.out) (fun h => by cases h) (fun h => by
                              have h1 := Pl.join_nil_len fs (by rw [← HJF.out]; omega)
                              rw [HFL.out] at h1
                              omega) (by omega) (by omega) (by omega)).mono ?_
                            rintro e wf ⟨rfl, rfl⟩
                            obtain ⟨hj1, hj2⟩ := Pl.joined fs (q - 1) (by rw [HFL.out]; omega) (fun a ha => by obtain ⟨m, hm, rfl⟩ := Pl.mem_getD fs a ha; rw [HFL.out] at hm; exact HFREE.out m hm) HLAST.out [] (by simp) col (by rw [HFL.out]; exact hck)
                            rw [← HJF.out] at hj1 hj2
                            rw [hj1, hj2]
                            clear hj1 hj2
                            obtain ⟨sc, hscd⟩ : ∃ s, s = S.getD col ByteArray.empty := ⟨_, rfl⟩
                            have hscl : (fs.getD col []).length = sc.size := by rw [HG.out col, bs_length, hscd]
                            rw [hscl]
                            have hpt : Pl.pre fs col ≤ tt := by rw [HK'.out]; exact Pl.pre_le_tot fs col
                            have hcellc : wf.cell? ⟨w'.heap.size, col, none⟩ = some (.string sc) := by rw [HBr.out.cell (by exact hs1), HC1.out col hck, hscd]
                            have hscs : sc.size ≤ 1048576 := by rw [hscd]; exact HSZ.out col hck
                            obtain ⟨P, hP⟩ : ∃ P, P = Pl.pre fs col := ⟨_, rfl⟩
                            rw [← hP] at hpt
                            rw [← hP]
                            have HP : Hid (P = Pl.pre fs col) := hP
                            clear hP hscl hscd HOE HRG
                            go_wp2
                            go_loop [15, 16] (fun v i => ∃ m pp : Nat, m ≤ col ∧ pp ≤ tt ∧ i = .int .i64 m ∧ v = .int .i64 pp ∧ Hid (pp = Pl.pre fs m)) (fun _ i => col - (intOf i).toNat)
                            case atStart => exact ⟨0, 0, by omega, by omega, by go_num, by go_num, by simp [Hid, Pl.pre]⟩
                            case round =>
                              obtain ⟨m, pp, hm, hpp, rfl, rfl, HM⟩ := hrel
                              by_cases hmc : m < col
                              · obtain ⟨s, hsd⟩ : ∃ s, s = S.getD m ByteArray.empty := ⟨_, rfl⟩
                                have hcellm : wf.cell? ⟨w'.heap.size, m, none⟩ = some (.string s) := by rw [HBr.out.cell (by exact hs1), HC1.out m (by omega), hsd]
                                have hss : s.size ≤ 1048576 := by rw [hsd]; exact HSZ.out m (by omega)
                                have HM2 : Hid (pp + (s.size + 1) = Pl.pre fs (m + 1)) := by
                                  show _ = _
                                  rw [Pl.pre_succ fs m (by rw [HFL.out]; omega), HG.out m, bs_length, ← hsd, HM.out]
                                have hle : pp + (s.size + 1) ≤ tt := by rw [HM2.out, HK'.out]; exact Pl.pre_le_tot fs (m + 1)
                                clear hsd
                                go_wp2
                                go_round
                                case rel => exact ⟨m + 1, pp + (s.size + 1), by omega, by omega, by go_num, by go_num, HM2⟩
                                case measure => simp [intOf]; omega
                              · obtain rfl : m = col := by omega
                                obtain rfl : pp = P := by rw [HM.out, HP.out]
                                have e1 : ((pp : Int) == (pp : Int)) = true := by simp
                                have e2 : (((pp + sc.size : Nat) : Int) == (pp : Int) + (sc.size : Int)) = true := by rw [beq_iff_eq]; omega
                                go_wp2
                                go_ret
                                refine ⟨rfl, ?_⟩
                                exact HB1.out.trans (HBr.out.mono (Nat.le_of_lt hs1))
                          · have r1 : (a1 % 3 == 1) = true := by rw [h3]; rfl
                            have r2 : (a1 % 3 == 2) = false := by rw [h3]; rfl
                            clear h3
                            go_wp2_with (at_builtin; refine wpList_append_fits _ rfl (.tmp 112) (.tmp 113) 29 rfl w1.heap.size 5 i0 1 Try.underlying29 hi hz1 w1.heap.size J.length (tt + 2) (J.map (Value.int .u8)) rfl (HO.out.alloc _) ⟨wr.heap.size, 0, none⟩ 1 1 [.int .u8 10] rfl rfl (cell_one_new _ _ _) (by intro u hu; simp at hu; subst hu; rfl) (by omega) ?_)
                            intro w3 hown3 hg3
                            have HB3 : Hid (Below w1.heap.size w1 w3) := (HBr.out.alloc HBr.out.size _).grown hg3 (by have := HBr.out.size; simp; omega) (by simp)
                            have HO3 : Hid (w3.ownsRow w1.heap.size 5 1 (.slice (some ⟨w1.heap.size, 0, none⟩) (J.length + 1) (tt + 2)) (J.length + 1) ((J ++ [10]).map (Value.int .u8))) := by
                              refine (show World.ownsRow _ _ _ _ _ _ _ from ?_)
                              rw [List.map_append]; exact hown3
                            clear hown3 hg3
                            have HRG : Hid (∀ x ∈ J ++ [10], 0 ≤ x ∧ x ≤ 255) := by
                              intro x hx
                              rcases List.mem_append.1 hx with hx | hx
                              · rw [HJF.out] at hx
                                refine Pl.join_range fs (fun a ha => ?_) x hx
                                obtain ⟨m, _, rfl⟩ := Pl.mem_getD fs a ha
                                rw [HG.out m]
                                exact bs_range _
                              · simp at hx
                                try omega
                            go_wp2_with fail
                            refine (zz_own w1.heap.size _ (J.length + 1) (tt + 2) col (J ++ [10]) _ (own_of_row HRG.out HO3.out) (fun h => by cases h) (fun h => by
                              have h1 := Pl.join_nil_len fs (by rw [← HJF.out]; omega)
                              rw [HFL.out] at h1
                              omega) (by omega) (by omega) (by omega)).mono ?_
                            rintro e wf ⟨rfl, rfl⟩
                            obtain ⟨hj1, hj2⟩ := Pl.joined fs (q - 1) (by rw [HFL.out]; omega) (fun a ha => by obtain ⟨m, hm, rfl⟩ := Pl.mem_getD fs a ha; rw [HFL.out] at hm; exact HFREE.out m hm) HLAST.out [10] (by simp) col (by rw [HFL.out]; exact hck)
                            rw [← HJF.out] at hj1 hj2
                            rw [hj1, hj2]
                            clear hj1 hj2
                            obtain ⟨sc, hscd⟩ : ∃ s, s = S.getD col ByteArray.empty := ⟨_, rfl⟩
                            have hscl : (fs.getD col []).length = sc.size := by rw [HG.out col, bs_length, hscd]
                            rw [hscl]
                            have hpt : Pl.pre fs col ≤ tt := by rw [HK'.out]; exact Pl.pre_le_tot fs col
                            have hcellc : wf.cell? ⟨w'.heap.size, col, none⟩ = some (.string sc) := by rw [HB3.out.cell (by exact hs1), HC1.out col hck, hscd]
                            have hscs : sc.size ≤ 1048576 := by rw [hscd]; exact HSZ.out col hck
                            obtain ⟨P, hP⟩ : ∃ P, P = Pl.pre fs col := ⟨_, rfl⟩
                            rw [← hP] at hpt
                            rw [← hP]
                            have HP : Hid (P = Pl.pre fs col) := hP
                            clear hP hscl hscd HO3 HRG
                            go_wp2
                            go_loop [15, 16] (fun v i => ∃ m pp : Nat, m ≤ col ∧ pp ≤ tt ∧ i = .int .i64 m ∧ v = .int .i64 pp ∧ Hid (pp = Pl.pre fs m)) (fun _ i => col - (intOf i).toNat)
                            case atStart => exact ⟨0, 0, by omega, by omega, by go_num, by go_num, by simp [Hid, Pl.pre]⟩
                            case round =>
                              obtain ⟨m, pp, hm, hpp, rfl, rfl, HM⟩ := hrel
                              by_cases hmc : m < col
                              · obtain ⟨s, hsd⟩ : ∃ s, s = S.getD m ByteArray.empty := ⟨_, rfl⟩
                                have hcellm : wf.cell? ⟨w'.heap.size, m, none⟩ = some (.string s) := by rw [HB3.out.cell (by exact hs1), HC1.out m (by omega), hsd]
                                have hss : s.size ≤ 1048576 := by rw [hsd]; exact HSZ.out m (by omega)
                                have HM2 : Hid (pp + (s.size + 1) = Pl.pre fs (m + 1)) := by
                                  show _ = _
                                  rw [Pl.pre_succ fs m (by rw [HFL.out]; omega), HG.out m, bs_length, ← hsd, HM.out]
                                have hle : pp + (s.size + 1) ≤ tt := by rw [HM2.out, HK'.out]; exact Pl.pre_le_tot fs (m + 1)
                                clear hsd
                                go_wp2
                                go_round
                                case rel => exact ⟨m + 1, pp + (s.size + 1), by omega, by omega, by go_num, by go_num, HM2⟩
                                case measure => simp [intOf]; omega
                              · obtain rfl : m = col := by omega
                                obtain rfl : pp = P := by rw [HM.out, HP.out]
                                have e1 : ((pp : Int) == (pp : Int)) = true := by simp
                                have e2 : (((pp + sc.size : Nat) : Int) == (pp : Int) + (sc.size : Int)) = true := by rw [beq_iff_eq]; omega
                                go_wp2
                                go_ret
                                refine ⟨rfl, ?_⟩
                                exact HB1.out.trans (HB3.out.mono (Nat.le_of_lt hs1))
                          · have r1 : (a1 % 3 == 1) = false := by rw [h3]; rfl
                            have r2 : (a1 % 3 == 2) = true := by rw [h3]; rfl
                            clear h3
                            go_wp2_with (at_builtin; refine wpList_append_fits _ rfl (.tmp 117) (.tmp 118) 29 rfl w1.heap.size 5 i0 1 Try.underlying29 hi hz1 w1.heap.size J.length (tt + 2) (J.map (Value.int .u8)) rfl (HO.out.alloc _) ⟨wr.heap.size, 0, none⟩ 2 2 [.int .u8 13, .int .u8 10] rfl rfl (cell_two_new _ _ _ _) (by intro u hu; simp at hu; rcases hu with hu | hu <;> subst hu <;> rfl) (by omega) ?_)
                            intro w3 hown3 hg3
                            have HB3 : Hid (Below w1.heap.size w1 w3) := (HBr.out.alloc HBr.out.size _).grown hg3 (by have := HBr.out.size; simp; omega) (by simp)
                            have HO3 : Hid (w3.ownsRow w1.heap.size 5 1 (.slice (some ⟨w1.heap.size, 0, none⟩) (J.length + 2) (tt + 2)) (J.length + 2) ((J ++ [13, 10]).map (Value.int .u8))) := by
                              refine (show World.ownsRow _ _ _ _ _ _ _ from ?_)
                              rw [List.map_append]; exact hown3
                            clear hown3 hg3
                            have HRG : Hid (∀ x ∈ J ++ [13, 10], 0 ≤ x ∧ x ≤ 255) := by
                              intro x hx
                              rcases List.mem_append.1 hx with hx | hx
                              · rw [HJF.out] at hx
                                refine Pl.join_range fs (fun a ha => ?_) x hx
                                obtain ⟨m, _, rfl⟩ := Pl.mem_getD fs a ha
                                rw [HG.out m]
                                exact bs_range _
                              · simp at hx
                                try omega
                            go_wp2_with fail
                            refine (zz_own w1.heap.size _ (J.length + 2) (tt + 2) col (J ++ [13, 10]) _ (own_of_row HRG.out HO3.out) (fun h => by cases h) (fun h => by
                              have h1 := Pl.join_nil_len fs (by rw [← HJF.out]; omega)
                              rw [HFL.out] at h1
                              omega) (by omega) (by omega) (by omega)).mono ?_
                            rintro e wf ⟨rfl, rfl⟩
                            obtain ⟨hj1, hj2⟩ := Pl.joined fs (q - 1) (by rw [HFL.out]; omega) (fun a ha => by obtain ⟨m, hm, rfl⟩ := Pl.mem_getD fs a ha; rw [HFL.out] at hm; exact HFREE.out m hm) HLAST.out [13, 10] (by simp) col (by rw [HFL.out]; exact hck)
                            rw [← HJF.out] at hj1 hj2
                            rw [hj1, hj2]
                            clear hj1 hj2
                            obtain ⟨sc, hscd⟩ : ∃ s, s = S.getD col ByteArray.empty := ⟨_, rfl⟩
                            have hscl : (fs.getD col []).length = sc.size := by rw [HG.out col, bs_length, hscd]
                            rw [hscl]
                            have hpt : Pl.pre fs col ≤ tt := by rw [HK'.out]; exact Pl.pre_le_tot fs col
                            have hcellc : wf.cell? ⟨w'.heap.size, col, none⟩ = some (.string sc) := by rw [HB3.out.cell (by exact hs1), HC1.out col hck, hscd]
                            have hscs : sc.size ≤ 1048576 := by rw [hscd]; exact HSZ.out col hck
                            obtain ⟨P, hP⟩ : ∃ P, P = Pl.pre fs col := ⟨_, rfl⟩
                            rw [← hP] at hpt
                            rw [← hP]
                            have HP : Hid (P = Pl.pre fs col) := hP
                            clear hP hscl hscd HO3 HRG
                            go_wp2
                            go_loop [15, 16] (fun v i => ∃ m pp : Nat, m ≤ col ∧ pp ≤ tt ∧ i = .int .i64 m ∧ v = .int .i64 pp ∧ Hid (pp = Pl.pre fs m)) (fun _ i => col - (intOf i).toNat)
                            case atStart => exact ⟨0, 0, by omega, by omega, by go_num, by go_num, by simp [Hid, Pl.pre]⟩
                            case round =>
                              obtain ⟨m, pp, hm, hpp, rfl, rfl, HM⟩ := hrel
                              by_cases hmc : m < col
                              · obtain ⟨s, hsd⟩ : ∃ s, s = S.getD m ByteArray.empty := ⟨_, rfl⟩
                                have hcellm : wf.cell? ⟨w'.heap.size, m, none⟩ = some (.string s) := by rw [HB3.out.cell (by exact hs1), HC1.out m (by omega), hsd]
                                have hss : s.size ≤ 1048576 := by rw [hsd]; exact HSZ.out m (by omega)
                                have HM2 : Hid (pp + (s.size + 1) = Pl.pre fs (m + 1)) := by
                                  show _ = _
                                  rw [Pl.pre_succ fs m (by rw [HFL.out]; omega), HG.out m, bs_length, ← hsd, HM.out]
                                have hle : pp + (s.size + 1) ≤ tt := by rw [HM2.out, HK'.out]; exact Pl.pre_le_tot fs (m + 1)
                                clear hsd
                                go_wp2
                                go_round
                                case rel => exact ⟨m + 1, pp + (s.size + 1), by omega, by omega, by go_num, by go_num, HM2⟩
                                case measure => simp [intOf]; omega
                              · obtain rfl : m = col := by omega
                                obtain rfl : pp = P := by rw [HM.out, HP.out]
                                have e1 : ((pp : Int) == (pp : Int)) = true := by simp
                                have e2 : (((pp + sc.size : Nat) : Int) == (pp : Int) + (sc.size : Int)) = true := by rw [beq_iff_eq]; omega
                                go_wp2
                                go_ret
                                refine ⟨rfl, ?_⟩
                                exact HB1.out.trans (HB3.out.mono (Nat.le_of_lt hs1))
    · go_wp2
      go_ret
      exact ⟨rfl, Below.refl _ _⟩
end Go.Proofs.Qxb6600576a.Join
