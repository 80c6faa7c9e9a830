/-
  THE WALK: macPlatforms at major 10.
-/
import Derived.Test.Qxb6601124aDoorWalkH
namespace Go.Proofs.Qxb6601124aDoor
open Go.RowKit
set_option linter.unusedSimpArgs false
set_option linter.unusedVariables false

theorem fmts_size (a : ByteArray) (h : a.size ≤ 1048576) : ∀ j, ((Pl.fmts a).getD j ByteArray.empty).size ≤ 1048576 := by
  intro j
  have key : ∀ x ∈ Pl.fmts a, x.size ≤ 1048576 := by
    intro x hx
    unfold Pl.fmts at hx
    split at hx
    · simp only [List.mem_cons, List.not_mem_nil, or_false] at hx
      rcases hx with rfl | rfl | rfl | rfl | rfl | rfl <;> decide
    · split at hx
      · simp only [List.mem_cons, List.not_mem_nil, or_false] at hx
        rcases hx with rfl | rfl <;> decide
      · simp only [List.mem_cons, List.not_mem_nil, or_false] at hx
        subst hx; exact h
  rw [List.getD_eq_getElem?_getD]
  cases hj : (Pl.fmts a)[j]? with
  | none => exact Nat.zero_le _
  | some x => exact key x (List.mem_of_getElem? hj)

theorem arch_cases (a : ByteArray) : ((a.toList == [120, 56, 54, 95, 54, 52]) = true ∧ [a, Pl.tIntel, Pl.tFat64, Pl.tFat32, Pl.tU2, Pl.tU] = Pl.fmts a ∧ Pl.low a = Pl.fmts a) ∨
    ((a.toList == [120, 56, 54, 95, 54, 52]) = false ∧ (a.toList == [97, 114, 109, 54, 52]) = true ∧ [a, Pl.tU2] = Pl.fmts a ∧ Pl.low a = [Pl.tU2]) ∨
    ((a.toList == [120, 56, 54, 95, 54, 52]) = false ∧ (a.toList == [97, 114, 109, 54, 52]) = false ∧ [a] = Pl.fmts a ∧ Pl.low a = [Pl.tU2]) := by
  have tx : Pl.tX.toList = [120, 56, 54, 95, 54, 52] := by rw [Lib.toList_data]; rfl
  have ta : Pl.tArm.toList = [97, 114, 109, 54, 52] := by rw [Lib.toList_data]; rfl
  by_cases hX : a = Pl.tX
  · left; refine ⟨by rw [hX, tx]; rfl, ?_, ?_⟩
    · subst hX; simp [Pl.fmts]
    · unfold Pl.low; rw [if_pos hX]
  · right
    have hx : (a.toList == [120, 56, 54, 95, 54, 52]) = false := by rw [← tx]; exact str_ne hX
    by_cases hA : a = Pl.tArm
    · left; refine ⟨hx, by rw [hA, ta]; rfl, ?_, ?_⟩
      · simp only [Pl.fmts]; rw [if_neg hX, if_pos hA, hA]
      · unfold Pl.low; rw [if_neg hX]
    · right; refine ⟨hx, by rw [← ta]; exact str_ne hA, ?_, ?_⟩
      · simp only [Pl.fmts]; rw [if_neg hX, if_neg hA]
      · unfold Pl.low; rw [if_neg hX]

theorem itoa_size8 (p : Nat) (h : p < 100000000) : (Pl.mk (Lib.itoa (p : Int))).size ≤ 8 := by
  rw [Pl.mk_size]
  unfold Lib.itoa
  rw [if_neg (by omega)]
  exact digits_len 7 _ (by simpa using h)

theorem count_small (a : ByteArray) (M mn : Int) (hM : M ≤ 1048577) (hmn : mn ≤ 10485769) : Pl.count a M true mn ≤ 70000000 := by
  unfold Pl.count
  have h1 := Pl.fmts_pos a
  have h2 := Pl.low_pos a
  have h3 : (mn - 3).toNat * (Pl.fmts a).length ≤ 10485770 * 6 := Nat.mul_le_mul (by omega) h1.2
  have h4 : (M - 10).toNat * (Pl.fmts a).length ≤ 1048577 * 6 := Nat.mul_le_mul (by omega) h1.2
  rw [if_pos rfl]
  split <;> omega

theorem down_step (f : Int → List ByteArray) (lo p : Int) (h : lo ≤ p) : Pl.down f lo (p - (lo - 1)).toNat = f p ++ Pl.down f lo (p - 1 - (lo - 1)).toNat := by
  have e : (p - (lo - 1)).toNat = (p - 1 - (lo - 1)).toNat + 1 := by omega
  rw [e, Pl.down]
  congr 2
  omega

theorem ver10_bytes (p : Int) (t : ByteArray) (h : t = { data := #[49, 48, 95] } ++ Pl.mk (Lib.itoa p)) : t.data.toList = Pl.ver10 p := by
  rw [h]
  simp [ByteArray.data_append, Pl.ver10, Pl.mk]

set_option maxHeartbeats 4000000 in
set_option maxRecDepth 100000 in
theorem mac10 (mv : Option Nat) (a im ex pl gl os : ByteArray) (v0 v1 v2 bits M : Int) (w : World) (hM : MapIs w mv a) (hE : Env w) (hs : os.size ≤ 1048576) (ha : a.size ≤ 1048576) (hM10 : M = 10) (hmaj : Lib.atoiAll (Pl.majL os.data.toList) = .ok M) (hbig : Pl.sBig (Pl.minL os.data.toList) = false)
    (mn : Int) (hmn : (if Pl.sOk (Pl.minL os.data.toList) = true then Pl.sVal (Pl.minL os.data.toList) else 0) = mn) (hmn0 : -10485769 ≤ mn) (hmn1 : mn ≤ 10485769) :
    Calls Tryd.prog 42 #[interp mv im ex pl gl os v0 v1 v2 bits] w fun e w' => Tags w w' (Pl.tags a 10 mn) e ∧ Below w.heap.size w w' := by
  have l1 := Pl.cutL_len os.data.toList
  have l2 := Pl.cutL_len (Pl.cutL os.data.toList).2
  rw [by_len] at l1
  have S1 : Hid ((Pl.mk (Pl.cutL os.data.toList).1).size ≤ 1048576) := by show _ ≤ _; rw [Pl.mk_size]; omega
  have S2 : Hid ((Pl.mk (Pl.cutL os.data.toList).2).size ≤ 1048576) := by show _ ≤ _; rw [Pl.mk_size]; omega
  have S3 : Hid ((Pl.mk (Pl.cutL (Pl.mk (Pl.cutL os.data.toList).2).data.toList).1).size ≤ 1048576) := by show _ ≤ _; rw [Pl.mk_bytes, Pl.mk_size]; omega
  have HO : Hid (Lib.atoiAll (Pl.mk (Pl.cutL os.data.toList).1).data.toList = .ok M) := by show _ = _; rw [Pl.mk_bytes]; exact hmaj
  have HE : Hid (Env w) := hE
  have HF : Hid (∀ j, ((Pl.fmts a).getD j ByteArray.empty).size ≤ 1048576) := fmts_size a ha
  have hlook : ∀ o, (Instr.lookup 49 (.map mv) (.string { data := #[112, 108, 97, 116, 102, 111, 114, 109, 95, 109, 97, 99, 104, 105, 110, 101] }) false).run Tryd.prog (w.alloc o) = .ok (.string a) (w.alloc o) := fun o => (hM.keep ((Below.refl _ _).alloc (Nat.le_refl _) o)).look
  obtain ⟨i0, hi, hz0, hz1, hz2⟩ := info_parts info9
  have E3 : Hid ((Pl.mk (Pl.cutL (Pl.mk (Pl.cutL os.data.toList).2).data.toList).1).data.toList = Pl.minL os.data.toList) := by show _ = _; rw [Pl.mk_bytes, Pl.mk_bytes]; rfl
  have HS : Hid (Pl.sBig (Pl.mk (Pl.cutL (Pl.mk (Pl.cutL os.data.toList).2).data.toList).1).data.toList = false) := by show _ = _; rw [E3.out]; exact hbig
  have HMN : Hid ((if Pl.sOk (Pl.mk (Pl.cutL (Pl.mk (Pl.cutL os.data.toList).2).data.toList).1).data.toList = true then Pl.sVal (Pl.mk (Pl.cutL (Pl.mk (Pl.cutL os.data.toList).2).data.toList).1).data.toList else 0) = mn) := by show _ = _; rw [E3.out]; exact hmn
  clear l1 l2 hE hM hbig hmn hmaj
  subst hM10
  unfold interp
  go_enter Tryd.func42, Tryd.ntmps42
  go_wp2_with fail
  go_at_call 47
  refine (cut_dot os _ hs).mono ?_
  rintro e w1 ⟨⟨b1, rfl⟩, hb1⟩
  have HB1 : Hid (Below w.heap.size w w1) := ((Below.refl _ _).alloc (Nat.le_refl _) _).trans (hb1.mono (by rw [alloc_size]; omega))
  clear hb1 hlook
  go_wp2_with fail
  go_at_call 47
  refine (cut_dot (Pl.mk (Pl.cutL os.data.toList).2) _ S2.out).mono ?_
  rintro e w2 ⟨⟨b2, rfl⟩, hb2⟩
  have HB2 : Hid (Below w.heap.size w w2) := HB1.out.trans (hb2.mono HB1.out.size)
  clear hb2
  go_wp2_with fail
  go_at_call 48
  refine (atoi_good (Pl.mk (Pl.cutL os.data.toList).1) _ _ S1.out HO.out).mono ?_
  rintro e w3 ⟨rfl, hb3⟩
  have HB3 : Hid (Below w.heap.size w w3) := HB2.out.trans (hb3.mono HB2.out.size)
  clear hb3
  go_wp2_with fail
  go_at_call 48
  refine (atoi_small (Pl.mk (Pl.cutL (Pl.mk (Pl.cutL os.data.toList).2).data.toList).1) _ (HE.out.keep HB3.out) S3.out HS.out).mono ?_
  rintro e w4 ⟨er, he, hb4⟩
  rw [HMN.out] at he
  subst he
  have HB4 : Hid (Below w.heap.size w w4) := HB3.out.trans (hb4.mono HB3.out.size)
  clear hb4
  have hsz4 : w.heap.size ≤ w4.heap.size := HB4.out.size
  have HOWN0 : Hid ((w4.alloc (.cells #[.string a] 9)).ownsRow w.heap.size 9 1 (.slice (some ⟨w4.heap.size, 0, none⟩) 1 1) 1 [.string a]) := own_fresh w4 a _ hsz4
  have HB5 : Hid (Below w.heap.size w (w4.alloc (.cells #[.string a] 9))) := HB4.out.alloc hsz4 _
  have hmf : ∀ (fn : Fn) (first cap : Array Value) (w : World), (Instr.makeFunc fn first cap).run Tryd.prog w = .ok (.func fn first cap) w := fun _ _ _ _ => rfl
  rcases arch_cases a with ⟨hX, hfm, hlow⟩ | ⟨hX, hA, hfm, hlow⟩ | ⟨hX, hA, hfm, hlow⟩
  all_goals
    have HFM := show Hid _ from hfm
    clear hfm hlow
  ·
    go_wp2_with (at_builtin; refine wpList_append_own_at _ rfl _ _ 46 rfl w.heap.size 9 i0 (.string ByteArray.empty) 1 16 Tryd.underlying46 hi hz0 hz1 hz2 rfl (by decide) (.slice (some ⟨w4.heap.size, 0, none⟩) 1 1) 1 [.string a] rfl (HOWN0.out.alloc _) ⟨(w4.alloc (.cells #[.string a] 9)).heap.size, 0, none⟩ 5 5 [.string { data := #[105, 110, 116, 101, 108] }, .string { data := #[102, 97, 116, 54, 52] }, .string { data := #[102, 97, 116, 51, 50] }, .string { data := #[117, 110, 105, 118, 101, 114, 115, 97, 108, 50] }, .string { data := #[117, 110, 105, 118, 101, 114, 115, 97, 108] }] (by simp [Act.eval]) rfl (cells_new _ _ _) (by intro u hu; simp at hu; rcases hu with rfl | rfl | rfl | rfl | rfl <;> rfl) (by unfold maxLen; omega) (by omega) (by rw [alloc_size, alloc_size]; omega) ?_)
    intro v5 w5 hown5 hg5 hnil5 hblk5
    have hown6 : w5.ownsRow w.heap.size 9 1 v5 6 ((Pl.fmts a).map Value.string) := by rw [← HFM.out]; exact hown5
    obtain ⟨N, c, rfl, hR, _⟩ := own_row hown6 (by rw [← HFM.out]; rfl) (by omega)
    have HR : Hid (RowAt w5 N (Pl.fmts a)) := hR
    have HB6 : Hid (Below w.heap.size w w5) := (HB5.out.alloc (by rw [alloc_size]; omega) _).grown hg5 (by rw [alloc_size, alloc_size]; omega) (by intro k hk; simp [Value.ownBlock] at hk; omega)
    have hk : (Pl.fmts a).length = 6 := by rw [← HFM.out]; rfl
    clear hown5 hown6 hg5 hnil5 hblk5 hR HOWN0 HB5
    have HI0 : Hid (Inv w.heap.size w5.heap.size N w (w5.alloc (.cells #[.slice none 0 0] 46)) (Pl.fmts a) [] (.slice none 0 0)) := Inv.start HB6.out.size HB6.out HR.out
    go_wp2
    generalize w5.alloc (Obj.cells #[Value.slice none 0 0] 46) = W at HI0 ⊢
    generalize w5.heap.size = T at HI0 ⊢
    clear HB6 HR
    go_loopw [17] (fun m wr => ∃ x : Int, m = .int .i64 x ∧ -10485769 ≤ x ∧ x ≤ 10485769 ∧ Hid (∃ L v, Inv w.heap.size T N w wr (Pl.fmts a) L v ∧ L ++ Pl.down (fun m => Pl.blk (Pl.ver10 m) (Pl.fmts a)) 4 (x - (4 - 1)).toNat = Pl.tags a 10 mn)) (fun m _ => (intOf m - 3).toNat)
    case atStart => exact ⟨mn, rfl, hmn0, hmn1, ⟨[], _, HI0.out, rfl⟩⟩
    case round =>
      obtain ⟨x, rfl, hx0, hx1, HX⟩ := hrel
      clear HI0
      by_cases h4 : 4 ≤ x
      · obtain ⟨p, rfl⟩ : ∃ p : Nat, x = (p : Int) := ⟨x.toNat, by omega⟩
        obtain ⟨L, v, hinv, hL⟩ := HX.out
        have HV : Hid (Inv w.heap.size T N w wr (Pl.fmts a) L v) := hinv
        have HL : Hid (L ++ Pl.down (fun m => Pl.blk (Pl.ver10 m) (Pl.fmts a)) 4 ((p : Int) - (4 - 1)).toNat = Pl.tags a 10 mn) := hL
        have hlen : L.length + 6 ≤ 1000000000 := by
          have h9 := congrArg List.length hL
          rw [List.length_append, Pl.tags_length] at h9
          have h10 := count_small a 10 mn (by omega) hmn1
          omega
        clear hinv hL HX
        have hps := itoa_size8 p (by omega)
        have n1 : ¬ (9223372036854775807 < 3 + (Pl.mk (Lib.itoa (p : Int))).size) := by omega
        go_wp2_with fail
        go_at_call 50
        refine (itoa_lib (p : Int) _ (HE.out.keep HV.out.1.2.1) (by omega) (by omega)).mono ?_
        rintro e wi ⟨rfl, hbi⟩
        have HVi : Hid (Inv w.heap.size T N w wi (Pl.fmts a) L v) := HV.out.keep hbi
        clear hbi HV
        go_wp2_with fail
        go_at_call 49
        refine (add_any w.heap.size T N w _ (Pl.fmts a) L v _ _ _ hk HVi.out (by rw [ByteArray.size_append]; show 3 + _ ≤ _; omega) HF.out (by omega)).mono ?_
        rintro e w7 ⟨rfl, v7, hinv7⟩
        rw [ver10_bytes (p : Int) _ rfl] at hinv7
        have HN : Hid (∃ L v, Inv w.heap.size T N w w7 (Pl.fmts a) L v ∧ L ++ Pl.down (fun m => Pl.blk (Pl.ver10 m) (Pl.fmts a)) 4 ((p : Int) - 1 - (4 - 1)).toNat = Pl.tags a 10 mn) := by
          refine ⟨_, v7, hinv7, ?_⟩
          rw [List.append_assoc, ← HL.out, down_step _ 4 (p : Int) h4]
        clear hinv7 HVi HL
        go_wp2
        go_roundw
        case rel => exact ⟨(p : Int) - 1, by go_num, by omega, by omega, HN⟩
        case measure => simp [intOf]; omega
      · obtain ⟨L, v, hinv, hL⟩ := HX.out
        have hz : (x - (4 - 1)).toNat = 0 := by omega
        rw [hz, Pl.down, List.append_nil] at hL
        subst hL
        obtain ⟨g9, c9, rfl⟩ := own_slice hinv.2.2.2.1
        have hTc := cell_of_one hinv.2.2.1
        have HV := show Hid _ from hinv
        clear hinv HX
        go_wp2
        go_ret
        exact ⟨⟨_, rfl, HV.out.2.2.2.1, HV.out.2.2.2.2.2⟩, HV.out.1.2.1⟩
  ·
    go_wp2_with (at_builtin; refine wpList_append_own_at _ rfl _ _ 46 rfl w.heap.size 9 i0 (.string ByteArray.empty) 1 16 Tryd.underlying46 hi hz0 hz1 hz2 rfl (by decide) (.slice (some ⟨w4.heap.size, 0, none⟩) 1 1) 1 [.string a] rfl (HOWN0.out.alloc _) ⟨(w4.alloc (.cells #[.string a] 9)).heap.size, 0, none⟩ 1 1 [.string { data := #[117, 110, 105, 118, 101, 114, 115, 97, 108, 50] }] (by simp [Act.eval]) rfl (cells_new _ _ _) (by intro u hu; simp at hu; subst hu; rfl) (by unfold maxLen; omega) (by omega) (by rw [alloc_size, alloc_size]; omega) ?_)
    intro v5 w5 hown5 hg5 hnil5 hblk5
    have hown6 : w5.ownsRow w.heap.size 9 1 v5 2 ((Pl.fmts a).map Value.string) := by rw [← HFM.out]; exact hown5
    obtain ⟨N, c, rfl, hR, _⟩ := own_row hown6 (by rw [← HFM.out]; rfl) (by omega)
    have HR : Hid (RowAt w5 N (Pl.fmts a)) := hR
    have HB6 : Hid (Below w.heap.size w w5) := (HB5.out.alloc (by rw [alloc_size]; omega) _).grown hg5 (by rw [alloc_size, alloc_size]; omega) (by intro k hk; simp [Value.ownBlock] at hk; omega)
    have hk : (Pl.fmts a).length = 2 := by rw [← HFM.out]; rfl
    clear hown5 hown6 hg5 hnil5 hblk5 hR HOWN0 HB5
    have HI0 : Hid (Inv w.heap.size w5.heap.size N w (w5.alloc (.cells #[.slice none 0 0] 46)) (Pl.fmts a) [] (.slice none 0 0)) := Inv.start HB6.out.size HB6.out HR.out
    go_wp2
    generalize w5.alloc (Obj.cells #[Value.slice none 0 0] 46) = W at HI0 ⊢
    generalize w5.heap.size = T at HI0 ⊢
    clear HB6 HR
    go_loopw [17] (fun m wr => ∃ x : Int, m = .int .i64 x ∧ -10485769 ≤ x ∧ x ≤ 10485769 ∧ Hid (∃ L v, Inv w.heap.size T N w wr (Pl.fmts a) L v ∧ L ++ Pl.down (fun m => Pl.blk (Pl.ver10 m) (Pl.fmts a)) 4 (x - (4 - 1)).toNat = Pl.tags a 10 mn)) (fun m _ => (intOf m - 3).toNat)
    case atStart => exact ⟨mn, rfl, hmn0, hmn1, ⟨[], _, HI0.out, rfl⟩⟩
    case round =>
      obtain ⟨x, rfl, hx0, hx1, HX⟩ := hrel
      clear HI0
      by_cases h4 : 4 ≤ x
      · obtain ⟨p, rfl⟩ : ∃ p : Nat, x = (p : Int) := ⟨x.toNat, by omega⟩
        obtain ⟨L, v, hinv, hL⟩ := HX.out
        have HV : Hid (Inv w.heap.size T N w wr (Pl.fmts a) L v) := hinv
        have HL : Hid (L ++ Pl.down (fun m => Pl.blk (Pl.ver10 m) (Pl.fmts a)) 4 ((p : Int) - (4 - 1)).toNat = Pl.tags a 10 mn) := hL
        have hlen : L.length + 6 ≤ 1000000000 := by
          have h9 := congrArg List.length hL
          rw [List.length_append, Pl.tags_length] at h9
          have h10 := count_small a 10 mn (by omega) hmn1
          omega
        clear hinv hL HX
        have hps := itoa_size8 p (by omega)
        have n1 : ¬ (9223372036854775807 < 3 + (Pl.mk (Lib.itoa (p : Int))).size) := by omega
        go_wp2_with fail
        go_at_call 50
        refine (itoa_lib (p : Int) _ (HE.out.keep HV.out.1.2.1) (by omega) (by omega)).mono ?_
        rintro e wi ⟨rfl, hbi⟩
        have HVi : Hid (Inv w.heap.size T N w wi (Pl.fmts a) L v) := HV.out.keep hbi
        clear hbi HV
        go_wp2_with fail
        go_at_call 49
        refine (add_any w.heap.size T N w _ (Pl.fmts a) L v _ _ _ hk HVi.out (by rw [ByteArray.size_append]; show 3 + _ ≤ _; omega) HF.out (by omega)).mono ?_
        rintro e w7 ⟨rfl, v7, hinv7⟩
        rw [ver10_bytes (p : Int) _ rfl] at hinv7
        have HN : Hid (∃ L v, Inv w.heap.size T N w w7 (Pl.fmts a) L v ∧ L ++ Pl.down (fun m => Pl.blk (Pl.ver10 m) (Pl.fmts a)) 4 ((p : Int) - 1 - (4 - 1)).toNat = Pl.tags a 10 mn) := by
          refine ⟨_, v7, hinv7, ?_⟩
          rw [List.append_assoc, ← HL.out, down_step _ 4 (p : Int) h4]
        clear hinv7 HVi HL
        go_wp2
        go_roundw
        case rel => exact ⟨(p : Int) - 1, by go_num, by omega, by omega, HN⟩
        case measure => simp [intOf]; omega
      · obtain ⟨L, v, hinv, hL⟩ := HX.out
        have hz : (x - (4 - 1)).toNat = 0 := by omega
        rw [hz, Pl.down, List.append_nil] at hL
        subst hL
        obtain ⟨g9, c9, rfl⟩ := own_slice hinv.2.2.2.1
        have hTc := cell_of_one hinv.2.2.1
        have HV := show Hid _ from hinv
        clear hinv HX
        go_wp2
        go_ret
        exact ⟨⟨_, rfl, HV.out.2.2.2.1, HV.out.2.2.2.2.2⟩, HV.out.1.2.1⟩
  ·
    have HR0 : Hid (RowAt (w4.alloc (.cells #[.string a] 9)) w4.heap.size (Pl.fmts a)) := by
      have h7 := rowAt_alloc w4 [a] #[.string a] 9 rfl
      rw [HFM.out] at h7
      exact h7
    have hk : (Pl.fmts a).length = 1 := by rw [← HFM.out]; rfl
    have HI0 : Hid (Inv w.heap.size (w4.heap.size + 1) w4.heap.size w ((w4.alloc (.cells #[.string a] 9)).alloc (.cells #[.slice none 0 0] 46)) (Pl.fmts a) [] (.slice none 0 0)) := by
      have h8 := Inv.start (B := w.heap.size) (N := w4.heap.size) (w0 := w) (w := w4.alloc (.cells #[.string a] 9)) (fs := Pl.fmts a) HB5.out.size HB5.out HR0.out
      have e8 : (w4.alloc (.cells #[.string a] 9)).heap.size = w4.heap.size + 1 := alloc_size _ _
      rw [e8] at h8
      exact h8
    go_wp2
    generalize (w4.alloc (Obj.cells #[Value.string a] 9)).alloc (Obj.cells #[Value.slice none 0 0] 46) = W at HI0 ⊢
    generalize w4.heap.size + 1 = T at HI0 ⊢
    clear HB5 HR0 HOWN0
    generalize w4.heap.size = N at HI0 ⊢
    go_loopw [17] (fun m wr => ∃ x : Int, m = .int .i64 x ∧ -10485769 ≤ x ∧ x ≤ 10485769 ∧ Hid (∃ L v, Inv w.heap.size T N w wr (Pl.fmts a) L v ∧ L ++ Pl.down (fun m => Pl.blk (Pl.ver10 m) (Pl.fmts a)) 4 (x - (4 - 1)).toNat = Pl.tags a 10 mn)) (fun m _ => (intOf m - 3).toNat)
    case atStart => exact ⟨mn, rfl, hmn0, hmn1, ⟨[], _, HI0.out, rfl⟩⟩
    case round =>
      obtain ⟨x, rfl, hx0, hx1, HX⟩ := hrel
      clear HI0
      by_cases h4 : 4 ≤ x
      · obtain ⟨p, rfl⟩ : ∃ p : Nat, x = (p : Int) := ⟨x.toNat, by omega⟩
        obtain ⟨L, v, hinv, hL⟩ := HX.out
        have HV : Hid (Inv w.heap.size T N w wr (Pl.fmts a) L v) := hinv
        have HL : Hid (L ++ Pl.down (fun m => Pl.blk (Pl.ver10 m) (Pl.fmts a)) 4 ((p : Int) - (4 - 1)).toNat = Pl.tags a 10 mn) := hL
        have hlen : L.length + 6 ≤ 1000000000 := by
          have h9 := congrArg List.length hL
          rw [List.length_append, Pl.tags_length] at h9
          have h10 := count_small a 10 mn (by omega) hmn1
          omega
        clear hinv hL HX
        have hps := itoa_size8 p (by omega)
        have n1 : ¬ (9223372036854775807 < 3 + (Pl.mk (Lib.itoa (p : Int))).size) := by omega
        go_wp2_with fail
        go_at_call 50
        refine (itoa_lib (p : Int) _ (HE.out.keep HV.out.1.2.1) (by omega) (by omega)).mono ?_
        rintro e wi ⟨rfl, hbi⟩
        have HVi : Hid (Inv w.heap.size T N w wi (Pl.fmts a) L v) := HV.out.keep hbi
        clear hbi HV
        go_wp2_with fail
        go_at_call 49
        refine (add_any w.heap.size T N w _ (Pl.fmts a) L v _ _ _ hk HVi.out (by rw [ByteArray.size_append]; show 3 + _ ≤ _; omega) HF.out (by omega)).mono ?_
        rintro e w7 ⟨rfl, v7, hinv7⟩
        rw [ver10_bytes (p : Int) _ rfl] at hinv7
        have HN : Hid (∃ L v, Inv w.heap.size T N w w7 (Pl.fmts a) L v ∧ L ++ Pl.down (fun m => Pl.blk (Pl.ver10 m) (Pl.fmts a)) 4 ((p : Int) - 1 - (4 - 1)).toNat = Pl.tags a 10 mn) := by
          refine ⟨_, v7, hinv7, ?_⟩
          rw [List.append_assoc, ← HL.out, down_step _ 4 (p : Int) h4]
        clear hinv7 HVi HL
        go_wp2
        go_roundw
        case rel => exact ⟨(p : Int) - 1, by go_num, by omega, by omega, HN⟩
        case measure => simp [intOf]; omega
      · obtain ⟨L, v, hinv, hL⟩ := HX.out
        have hz : (x - (4 - 1)).toNat = 0 := by omega
        rw [hz, Pl.down, List.append_nil] at hL
        subst hL
        obtain ⟨g9, c9, rfl⟩ := own_slice hinv.2.2.2.1
        have hTc := cell_of_one hinv.2.2.1
        have HV := show Hid _ from hinv
        clear hinv HX
        go_wp2
        go_ret
        exact ⟨⟨_, rfl, HV.out.2.2.2.1, HV.out.2.2.2.2.2⟩, HV.out.1.2.1⟩
end Go.Proofs.Qxb6601124aDoor
