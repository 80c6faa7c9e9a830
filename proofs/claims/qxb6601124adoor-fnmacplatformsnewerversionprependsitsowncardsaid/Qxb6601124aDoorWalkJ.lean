/-
  THE WALK: macPlatforms at another major number.
-/
import Derived.Test.Qxb6601124aDoorWalkI
namespace Go.Proofs.Qxb6601124aDoor
open Go.RowKit
set_option linter.unusedSimpArgs false
set_option linter.unusedVariables false

theorem low_size (a : ByteArray) (h : a.size ≤ 1048576) : ∀ j, ((Pl.low a).getD j ByteArray.empty).size ≤ 1048576 := by
  intro j
  unfold Pl.low
  split
  · exact fmts_size a h j
  · cases j with
    | zero => decide
    | succ j => exact Nat.zero_le _

theorem Inv.swap {B T N : Nat} {w0 w : World} {fs L : List ByteArray} {v : Value} (h : Inv B T N w0 w fs L v) : Inv B T w.heap.size w0 (w.alloc (.cells #[.string Pl.tU2] 9)) [Pl.tU2] L v := by
  obtain ⟨⟨hB, hbel, hBT, hNT⟩, hrow, hT, hown, hvN, hnil⟩ := h
  refine ⟨⟨by rw [alloc_size]; omega, hbel.alloc hB _, hBT, Nat.ne_of_gt (lt_of_block hT)⟩, rowAt_alloc w [Pl.tU2] _ 9 rfl, by rw [heap_alloc_lt (lt_of_block hT)]; exact hT, hown.alloc _, ?_, hnil⟩
  intro e
  have := (hown.lt _ e).2
  omega

theorem ver11_bytes (p : Int) (t : ByteArray) (h : t = Pl.mk (Lib.itoa p) ++ { data := #[95, 48] }) : t.data.toList = Pl.ver11 p := by
  rw [h]
  simp [ByteArray.data_append, Pl.ver11, Pl.mk]

set_option maxHeartbeats 4000000 in
set_option maxRecDepth 100000 in
theorem mac11 (mv : Option Nat) (a im ex pl gl os : ByteArray) (v0 v1 v2 bits M : Int) (w : World) (hM : MapIs w mv a) (hE : Env w) (hs : os.size ≤ 1048576) (ha : a.size ≤ 1048576) (hM10 : M ≠ 10) (hMl : -1048576 ≤ M) (hMu : M ≤ 1048577) (hmaj : Lib.atoiAll (Pl.majL os.data.toList) = .ok M) (mn : Int) :
    Calls Tryd.prog 42 #[interp mv im ex pl gl os v0 v1 v2 bits] w fun e w' => Tags w w' (Pl.tags a M mn) e ∧ Below w.heap.size w w' := by
  have l1 := Pl.cutL_len os.data.toList
  have l2 := Pl.cutL_len (Pl.cutL os.data.toList).2
  rw [by_len] at l1
  have S1 : Hid ((Pl.mk (Pl.cutL os.data.toList).1).size ≤ 1048576) := by show _ ≤ _; rw [Pl.mk_size]; omega
  have S2 : Hid ((Pl.mk (Pl.cutL os.data.toList).2).size ≤ 1048576) := by show _ ≤ _; rw [Pl.mk_size]; omega
  have S3 : Hid ((Pl.mk (Pl.cutL (Pl.mk (Pl.cutL os.data.toList).2).data.toList).1).size ≤ 1048576) := by show _ ≤ _; rw [Pl.mk_bytes, Pl.mk_size]; omega
  have HO : Hid (Lib.atoiAll (Pl.mk (Pl.cutL os.data.toList).1).data.toList = .ok M) := by show _ = _; rw [Pl.mk_bytes]; exact hmaj
  have HE : Hid (Env w) := hE
  have HF : Hid (∀ j, ((Pl.fmts a).getD j ByteArray.empty).size ≤ 1048576) := fmts_size a ha
  have hlook : ∀ o, (Instr.lookup 49 (.map mv) (.string { data := #[112, 108, 97, 116, 102, 111, 114, 109, 95, 109, 97, 99, 104, 105, 110, 101] }) false).run Tryd.prog (w.alloc o) = .ok (.string a) (w.alloc o) := fun o => (hM.keep ((Below.refl _ _).alloc (Nat.le_refl _) o)).look
  obtain ⟨i0, hi, hz0, hz1, hz2⟩ := info_parts info9
  have HF2 : Hid (∀ j, ((Pl.low a).getD j ByteArray.empty).size ≤ 1048576) := low_size a ha
  have HTG : Hid (Pl.down (fun m => Pl.blk (Pl.ver11 m) (Pl.fmts a)) 11 (M - (11 - 1)).toNat ++ Pl.down (fun m => Pl.blk (Pl.ver10 m) (Pl.low a)) 4 13 = Pl.tags a M mn) := by
    show _ = _
    unfold Pl.tags
    rw [if_neg hM10, show (11 - 1 : Int) = 10 by decide]
  have hlen0 : (Pl.down (fun m => Pl.blk (Pl.ver11 m) (Pl.fmts a)) 11 (M - (11 - 1)).toNat).length ≤ 1048577 * 6 := by
    rw [Pl.down_length _ _ _ (fun m => Pl.blk_length _ _)]
    exact Nat.mul_le_mul (by omega) (Pl.fmts_pos a).2
  have h10 : (M == 10) = false := by rw [beq_eq_false_iff_ne]; exact hM10
  clear l1 l2 hE hM hmaj
  unfold interp
  go_enter Tryd.func42, Tryd.ntmps42
  go_wp2_with fail
  go_at_call 47
  refine (cut_dot os _ hs).mono ?_
  rintro e w1 ⟨⟨b1, rfl⟩, hb1⟩
  have HB1 : Hid (Below w.heap.size w w1) := ((Below.refl _ _).alloc (Nat.le_refl _) _).trans (hb1.mono (by rw [alloc_size]; omega))
  clear hb1 hlook
  go_wp2_with fail
  go_at_call 47
  refine (cut_dot (Pl.mk (Pl.cutL os.data.toList).2) _ S2.out).mono ?_
  rintro e w2 ⟨⟨b2, rfl⟩, hb2⟩
  have HB2 : Hid (Below w.heap.size w w2) := HB1.out.trans (hb2.mono HB1.out.size)
  clear hb2
  go_wp2_with fail
  go_at_call 48
  refine (atoi_good (Pl.mk (Pl.cutL os.data.toList).1) _ _ S1.out HO.out).mono ?_
  rintro e w3 ⟨rfl, hb3⟩
  have HB3 : Hid (Below w.heap.size w w3) := HB2.out.trans (hb3.mono HB2.out.size)
  clear hb3
  go_wp2_with fail
  go_at_call 48
  refine (atoi_some (Pl.mk (Pl.cutL (Pl.mk (Pl.cutL os.data.toList).2).data.toList).1) _ (HE.out.keep HB3.out) S3.out).mono ?_
  rintro e w4 ⟨x0, er, rfl, hb4⟩
  have HB4 : Hid (Below w.heap.size w w4) := HB3.out.trans (hb4.mono HB3.out.size)
  clear hb4
  have hsz4 : w.heap.size ≤ w4.heap.size := HB4.out.size
  have HOWN0 : Hid ((w4.alloc (.cells #[.string a] 9)).ownsRow w.heap.size 9 1 (.slice (some ⟨w4.heap.size, 0, none⟩) 1 1) 1 [.string a]) := own_fresh w4 a _ hsz4
  have HB5 : Hid (Below w.heap.size w (w4.alloc (.cells #[.string a] 9))) := HB4.out.alloc hsz4 _
  have hmf : ∀ (fn : Fn) (first cap : Array Value) (w : World), (Instr.makeFunc fn first cap).run Tryd.prog w = .ok (.func fn first cap) w := fun _ _ _ _ => rfl
  rcases arch_cases a with ⟨hX, hfm, hlow⟩ | ⟨hX, hA, hfm, hlow⟩ | ⟨hX, hA, hfm, hlow⟩
  all_goals
    have HFM := show Hid _ from hfm
    have HLOW := show Hid _ from hlow
    clear hfm hlow
  ·
    go_wp2_with (at_builtin; refine wpList_append_own_at _ rfl _ _ 46 rfl w.heap.size 9 i0 (.string ByteArray.empty) 1 16 Tryd.underlying46 hi hz0 hz1 hz2 rfl (by decide) (.slice (some ⟨w4.heap.size, 0, none⟩) 1 1) 1 [.string a] rfl (HOWN0.out.alloc _) ⟨(w4.alloc (.cells #[.string a] 9)).heap.size, 0, none⟩ 5 5 [.string { data := #[105, 110, 116, 101, 108] }, .string { data := #[102, 97, 116, 54, 52] }, .string { data := #[102, 97, 116, 51, 50] }, .string { data := #[117, 110, 105, 118, 101, 114, 115, 97, 108, 50] }, .string { data := #[117, 110, 105, 118, 101, 114, 115, 97, 108] }] (by simp [Act.eval]) rfl (cells_new _ _ _) (by intro u hu; simp at hu; rcases hu with rfl | rfl | rfl | rfl | rfl <;> rfl) (by unfold maxLen; omega) (by omega) (by rw [alloc_size, alloc_size]; omega) ?_)
    intro v5 w5 hown5 hg5 hnil5 hblk5
    have hown6 : w5.ownsRow w.heap.size 9 1 v5 6 ((Pl.fmts a).map Value.string) := by rw [← HFM.out]; exact hown5
    obtain ⟨N, c, rfl, hR, _⟩ := own_row hown6 (by rw [← HFM.out]; rfl) (by omega)
    have HR : Hid (RowAt w5 N (Pl.fmts a)) := hR
    have HB6 : Hid (Below w.heap.size w w5) := (HB5.out.alloc (by rw [alloc_size]; omega) _).grown hg5 (by rw [alloc_size, alloc_size]; omega) (by intro k hk; simp [Value.ownBlock] at hk; omega)
    have hk : (Pl.fmts a).length = 6 := by rw [← HFM.out]; rfl
    clear hown5 hown6 hg5 hnil5 hblk5 hR HOWN0 HB5
    have HI0 : Hid (Inv w.heap.size w5.heap.size N w (w5.alloc (.cells #[.slice none 0 0] 46)) (Pl.fmts a) [] (.slice none 0 0)) := Inv.start HB6.out.size HB6.out HR.out
    go_wp2
    generalize w5.alloc (Obj.cells #[Value.slice none 0 0] 46) = W at HI0 ⊢
    generalize w5.heap.size = T at HI0 ⊢
    clear HB6 HR
    go_loopw [18] (fun m wr => ∃ x : Int, m = .int .i64 x ∧ -1048576 ≤ x ∧ x ≤ 1048577 ∧ Hid (∃ L v, Inv w.heap.size T N w wr (Pl.fmts a) L v ∧ L ++ Pl.down (fun m => Pl.blk (Pl.ver11 m) (Pl.fmts a)) 11 (x - (11 - 1)).toNat = Pl.down (fun m => Pl.blk (Pl.ver11 m) (Pl.fmts a)) 11 (M - (11 - 1)).toNat)) (fun m _ => (intOf m - 10).toNat)
    case atStart => exact ⟨M, rfl, hMl, hMu, ⟨[], _, HI0.out, rfl⟩⟩
    case round =>
      obtain ⟨x, rfl, hx0, hx1, HX⟩ := hrel
      clear HI0
      by_cases h4 : 11 ≤ x
      · obtain ⟨p, rfl⟩ : ∃ p : Nat, x = (p : Int) := ⟨x.toNat, by omega⟩
        obtain ⟨L, v, hinv, hL⟩ := HX.out
        have HV : Hid (Inv w.heap.size T N w wr (Pl.fmts a) L v) := hinv
        have HL : Hid (L ++ Pl.down (fun m => Pl.blk (Pl.ver11 m) (Pl.fmts a)) 11 ((p : Int) - (11 - 1)).toNat = Pl.down (fun m => Pl.blk (Pl.ver11 m) (Pl.fmts a)) 11 (M - (11 - 1)).toNat) := hL
        have hlen : L.length + 6 ≤ 1000000000 := by
          have h9 := congrArg List.length hL
          rw [List.length_append] at h9
          omega
        clear hinv hL HX
        have hps := itoa_size8 p (by omega)
        have n1 : ¬ (9223372036854775807 < (Pl.mk (Lib.itoa (p : Int))).size + 2) := by omega
        go_wp2_with fail
        go_at_call 50
        refine (itoa_lib (p : Int) _ (HE.out.keep HV.out.1.2.1) (by omega) (by omega)).mono ?_
        rintro e wi ⟨rfl, hbi⟩
        have HVi : Hid (Inv w.heap.size T N w wi (Pl.fmts a) L v) := HV.out.keep hbi
        clear hbi HV
        go_wp2_with fail
        go_at_call 49
        refine (add_any w.heap.size T N w _ (Pl.fmts a) L v _ _ _ hk HVi.out (by rw [ByteArray.size_append]; show _ + 2 ≤ _; omega) HF.out (by omega)).mono ?_
        rintro e w7 ⟨rfl, v7, hinv7⟩
        rw [ver11_bytes (p : Int) _ rfl] at hinv7
        have HN : Hid (∃ L v, Inv w.heap.size T N w w7 (Pl.fmts a) L v ∧ L ++ Pl.down (fun m => Pl.blk (Pl.ver11 m) (Pl.fmts a)) 11 ((p : Int) - 1 - (11 - 1)).toNat = Pl.down (fun m => Pl.blk (Pl.ver11 m) (Pl.fmts a)) 11 (M - (11 - 1)).toNat) := by
          refine ⟨_, v7, hinv7, ?_⟩
          rw [List.append_assoc, ← HL.out, down_step _ 11 (p : Int) h4]
        clear hinv7 HVi HL
        go_wp2
        go_roundw
        case rel => exact ⟨(p : Int) - 1, by go_num, by omega, by omega, HN⟩
        case measure => simp [intOf]; omega
      · obtain ⟨L, v, hinv, hL⟩ := HX.out
        have hz : (x - (11 - 1)).toNat = 0 := by omega
        rw [hz, Pl.down, List.append_nil] at hL
        have HI3 : Hid (∃ L v, Inv w.heap.size T N w wr (Pl.low a) L v ∧ L ++ Pl.down (fun m => Pl.blk (Pl.ver10 m) (Pl.low a)) 4 ((16 : Int) - (4 - 1)).toNat = Pl.tags a M mn) := ⟨L, v, by rw [HLOW.out]; exact hinv, by rw [hL]; exact HTG.out⟩
        have hk2 : (Pl.low a).length = 6 := by rw [HLOW.out]; exact hk
        clear hinv hL HX
        go_wp2
        go_loopw [19] (fun m wr => ∃ x : Int, m = .int .i64 x ∧ 3 ≤ x ∧ x ≤ 16 ∧ Hid (∃ L v, Inv w.heap.size T N w wr (Pl.low a) L v ∧ L ++ Pl.down (fun m => Pl.blk (Pl.ver10 m) (Pl.low a)) 4 (x - (4 - 1)).toNat = Pl.tags a M mn)) (fun m _ => (intOf m - 3).toNat)
        case atStart => exact ⟨16, rfl, by omega, by omega, HI3⟩
        case round =>
          obtain ⟨x, rfl, hx0, hx1, HX⟩ := hrel
          clear HI3
          by_cases h4 : 4 ≤ x
          · obtain ⟨p, rfl⟩ : ∃ p : Nat, x = (p : Int) := ⟨x.toNat, by omega⟩
            obtain ⟨L, v, hinv, hL⟩ := HX.out
            have HV : Hid (Inv w.heap.size T N w _ (Pl.low a) L v) := hinv
            have HL : Hid (L ++ Pl.down (fun m => Pl.blk (Pl.ver10 m) (Pl.low a)) 4 ((p : Int) - (4 - 1)).toNat = Pl.tags a M mn) := hL
            have hlen : L.length + 6 ≤ 1000000000 := by
              have h9 := congrArg List.length hL
              rw [← HTG.out, List.length_append, List.length_append, Pl.down_length (fun m => Pl.blk (Pl.ver10 m) (Pl.low a)) 4 _ (fun m => Pl.blk_length _ _) 13] at h9
              have := (Pl.low_pos a).2
              have h13 : 13 * (Pl.low a).length ≤ 13 * 6 := Nat.mul_le_mul (Nat.le_refl _) this
              omega
            clear hinv hL HX
            have hps := itoa_size8 p (by omega)
            have n1 : ¬ (9223372036854775807 < 3 + (Pl.mk (Lib.itoa (p : Int))).size) := by omega
            go_wp2_with fail
            go_at_call 50
            refine (itoa_lib (p : Int) _ (HE.out.keep HV.out.1.2.1) (by omega) (by omega)).mono ?_
            rintro e wi ⟨rfl, hbi⟩
            have HVi : Hid (Inv w.heap.size T N w wi (Pl.low a) L v) := HV.out.keep hbi
            clear hbi HV
            go_wp2_with fail
            go_at_call 49
            refine (add_any w.heap.size T N w _ (Pl.low a) L v _ _ _ hk2 HVi.out (by rw [ByteArray.size_append]; show 3 + _ ≤ _; omega) HF2.out (by omega)).mono ?_
            rintro e w7 ⟨rfl, v7, hinv7⟩
            rw [ver10_bytes (p : Int) _ rfl] at hinv7
            have HN : Hid (∃ L v, Inv w.heap.size T N w w7 (Pl.low a) L v ∧ L ++ Pl.down (fun m => Pl.blk (Pl.ver10 m) (Pl.low a)) 4 ((p : Int) - 1 - (4 - 1)).toNat = Pl.tags a M mn) := by
              refine ⟨_, v7, hinv7, ?_⟩
              rw [List.append_assoc, ← HL.out, down_step _ 4 (p : Int) h4]
            clear hinv7 HVi HL
            go_wp2
            go_roundw
            case rel => exact ⟨(p : Int) - 1, by go_num, by omega, by omega, HN⟩
            case measure => simp [intOf]; omega
          · obtain ⟨L, v, hinv, hL⟩ := HX.out
            have hz : (x - (4 - 1)).toNat = 0 := by omega
            rw [hz, Pl.down, List.append_nil] at hL
            have HL : Hid (L = Pl.tags a M mn) := hL
            obtain ⟨g9, c9, rfl⟩ := own_slice hinv.2.2.2.1
            have hTc := cell_of_one hinv.2.2.1
            have HV := show Hid _ from hinv
            clear hinv HX hL
            go_wp2
            go_ret
            rw [← HL.out]
            exact ⟨⟨_, rfl, HV.out.2.2.2.1, HV.out.2.2.2.2.2⟩, HV.out.1.2.1⟩
  ·
    go_wp2_with (at_builtin; refine wpList_append_own_at _ rfl _ _ 46 rfl w.heap.size 9 i0 (.string ByteArray.empty) 1 16 Tryd.underlying46 hi hz0 hz1 hz2 rfl (by decide) (.slice (some ⟨w4.heap.size, 0, none⟩) 1 1) 1 [.string a] rfl (HOWN0.out.alloc _) ⟨(w4.alloc (.cells #[.string a] 9)).heap.size, 0, none⟩ 1 1 [.string { data := #[117, 110, 105, 118, 101, 114, 115, 97, 108, 50] }] (by simp [Act.eval]) rfl (cells_new _ _ _) (by intro u hu; simp at hu; subst hu; rfl) (by unfold maxLen; omega) (by omega) (by rw [alloc_size, alloc_size]; omega) ?_)
    intro v5 w5 hown5 hg5 hnil5 hblk5
    have hown6 : w5.ownsRow w.heap.size 9 1 v5 2 ((Pl.fmts a).map Value.string) := by rw [← HFM.out]; exact hown5
    obtain ⟨N, c, rfl, hR, _⟩ := own_row hown6 (by rw [← HFM.out]; rfl) (by omega)
    have HR : Hid (RowAt w5 N (Pl.fmts a)) := hR
    have HB6 : Hid (Below w.heap.size w w5) := (HB5.out.alloc (by rw [alloc_size]; omega) _).grown hg5 (by rw [alloc_size, alloc_size]; omega) (by intro k hk; simp [Value.ownBlock] at hk; omega)
    have hk : (Pl.fmts a).length = 2 := by rw [← HFM.out]; rfl
    clear hown5 hown6 hg5 hnil5 hblk5 hR HOWN0 HB5
    have HI0 : Hid (Inv w.heap.size w5.heap.size N w (w5.alloc (.cells #[.slice none 0 0] 46)) (Pl.fmts a) [] (.slice none 0 0)) := Inv.start HB6.out.size HB6.out HR.out
    go_wp2
    generalize w5.alloc (Obj.cells #[Value.slice none 0 0] 46) = W at HI0 ⊢
    generalize w5.heap.size = T at HI0 ⊢
    clear HB6 HR
    go_loopw [18] (fun m wr => ∃ x : Int, m = .int .i64 x ∧ -1048576 ≤ x ∧ x ≤ 1048577 ∧ Hid (∃ L v, Inv w.heap.size T N w wr (Pl.fmts a) L v ∧ L ++ Pl.down (fun m => Pl.blk (Pl.ver11 m) (Pl.fmts a)) 11 (x - (11 - 1)).toNat = Pl.down (fun m => Pl.blk (Pl.ver11 m) (Pl.fmts a)) 11 (M - (11 - 1)).toNat)) (fun m _ => (intOf m - 10).toNat)
    case atStart => exact ⟨M, rfl, hMl, hMu, ⟨[], _, HI0.out, rfl⟩⟩
    case round =>
      obtain ⟨x, rfl, hx0, hx1, HX⟩ := hrel
      clear HI0
      by_cases h4 : 11 ≤ x
      · obtain ⟨p, rfl⟩ : ∃ p : Nat, x = (p : Int) := ⟨x.toNat, by omega⟩
        obtain ⟨L, v, hinv, hL⟩ := HX.out
        have HV : Hid (Inv w.heap.size T N w wr (Pl.fmts a) L v) := hinv
        have HL : Hid (L ++ Pl.down (fun m => Pl.blk (Pl.ver11 m) (Pl.fmts a)) 11 ((p : Int) - (11 - 1)).toNat = Pl.down (fun m => Pl.blk (Pl.ver11 m) (Pl.fmts a)) 11 (M - (11 - 1)).toNat) := hL
        have hlen : L.length + 6 ≤ 1000000000 := by
          have h9 := congrArg List.length hL
          rw [List.length_append] at h9
          omega
        clear hinv hL HX
        have hps := itoa_size8 p (by omega)
        have n1 : ¬ (9223372036854775807 < (Pl.mk (Lib.itoa (p : Int))).size + 2) := by omega
        go_wp2_with fail
        go_at_call 50
        refine (itoa_lib (p : Int) _ (HE.out.keep HV.out.1.2.1) (by omega) (by omega)).mono ?_
        rintro e wi ⟨rfl, hbi⟩
        have HVi : Hid (Inv w.heap.size T N w wi (Pl.fmts a) L v) := HV.out.keep hbi
        clear hbi HV
        go_wp2_with fail
        go_at_call 49
        refine (add_any w.heap.size T N w _ (Pl.fmts a) L v _ _ _ hk HVi.out (by rw [ByteArray.size_append]; show _ + 2 ≤ _; omega) HF.out (by omega)).mono ?_
        rintro e w7 ⟨rfl, v7, hinv7⟩
        rw [ver11_bytes (p : Int) _ rfl] at hinv7
        have HN : Hid (∃ L v, Inv w.heap.size T N w w7 (Pl.fmts a) L v ∧ L ++ Pl.down (fun m => Pl.blk (Pl.ver11 m) (Pl.fmts a)) 11 ((p : Int) - 1 - (11 - 1)).toNat = Pl.down (fun m => Pl.blk (Pl.ver11 m) (Pl.fmts a)) 11 (M - (11 - 1)).toNat) := by
          refine ⟨_, v7, hinv7, ?_⟩
          rw [List.append_assoc, ← HL.out, down_step _ 11 (p : Int) h4]
        clear hinv7 HVi HL
        go_wp2
        go_roundw
        case rel => exact ⟨(p : Int) - 1, by go_num, by omega, by omega, HN⟩
        case measure => simp [intOf]; omega
      · obtain ⟨L, v, hinv, hL⟩ := HX.out
        have hz : (x - (11 - 1)).toNat = 0 := by omega
        rw [hz, Pl.down, List.append_nil] at hL
        have HI3 : Hid (∃ L v, Inv w.heap.size T wr.heap.size w (wr.alloc (.cells #[.string Pl.tU2] 9)) (Pl.low a) L v ∧ L ++ Pl.down (fun m => Pl.blk (Pl.ver10 m) (Pl.low a)) 4 ((16 : Int) - (4 - 1)).toNat = Pl.tags a M mn) := ⟨L, v, by rw [HLOW.out]; exact hinv.swap, by rw [hL]; exact HTG.out⟩
        have hk2 : (Pl.low a).length = 1 := by rw [HLOW.out]; rfl
        clear hinv hL HX
        go_wp2
        generalize wr.heap.size = N2 at HI3 ⊢
        go_loopw [19] (fun m wr => ∃ x : Int, m = .int .i64 x ∧ 3 ≤ x ∧ x ≤ 16 ∧ Hid (∃ L v, Inv w.heap.size T N2 w wr (Pl.low a) L v ∧ L ++ Pl.down (fun m => Pl.blk (Pl.ver10 m) (Pl.low a)) 4 (x - (4 - 1)).toNat = Pl.tags a M mn)) (fun m _ => (intOf m - 3).toNat)
        case atStart => exact ⟨16, rfl, by omega, by omega, HI3⟩
        case round =>
          obtain ⟨x, rfl, hx0, hx1, HX⟩ := hrel
          clear HI3
          by_cases h4 : 4 ≤ x
          · obtain ⟨p, rfl⟩ : ∃ p : Nat, x = (p : Int) := ⟨x.toNat, by omega⟩
            obtain ⟨L, v, hinv, hL⟩ := HX.out
            have HV : Hid (Inv w.heap.size T N2 w _ (Pl.low a) L v) := hinv
            have HL : Hid (L ++ Pl.down (fun m => Pl.blk (Pl.ver10 m) (Pl.low a)) 4 ((p : Int) - (4 - 1)).toNat = Pl.tags a M mn) := hL
            have hlen : L.length + 6 ≤ 1000000000 := by
              have h9 := congrArg List.length hL
              rw [← HTG.out, List.length_append, List.length_append, Pl.down_length (fun m => Pl.blk (Pl.ver10 m) (Pl.low a)) 4 _ (fun m => Pl.blk_length _ _) 13] at h9
              have := (Pl.low_pos a).2
              have h13 : 13 * (Pl.low a).length ≤ 13 * 6 := Nat.mul_le_mul (Nat.le_refl _) this
              omega
            clear hinv hL HX
            have hps := itoa_size8 p (by omega)
            have n1 : ¬ (9223372036854775807 < 3 + (Pl.mk (Lib.itoa (p : Int))).size) := by omega
            go_wp2_with fail
            go_at_call 50
            refine (itoa_lib (p : Int) _ (HE.out.keep HV.out.1.2.1) (by omega) (by omega)).mono ?_
            rintro e wi ⟨rfl, hbi⟩
            have HVi : Hid (Inv w.heap.size T N2 w wi (Pl.low a) L v) := HV.out.keep hbi
            clear hbi HV
            go_wp2_with fail
            go_at_call 49
            refine (add_any w.heap.size T N2 w _ (Pl.low a) L v _ _ _ hk2 HVi.out (by rw [ByteArray.size_append]; show 3 + _ ≤ _; omega) HF2.out (by omega)).mono ?_
            rintro e w7 ⟨rfl, v7, hinv7⟩
            rw [ver10_bytes (p : Int) _ rfl] at hinv7
            have HN : Hid (∃ L v, Inv w.heap.size T N2 w w7 (Pl.low a) L v ∧ L ++ Pl.down (fun m => Pl.blk (Pl.ver10 m) (Pl.low a)) 4 ((p : Int) - 1 - (4 - 1)).toNat = Pl.tags a M mn) := by
              refine ⟨_, v7, hinv7, ?_⟩
              rw [List.append_assoc, ← HL.out, down_step _ 4 (p : Int) h4]
            clear hinv7 HVi HL
            go_wp2
            go_roundw
            case rel => exact ⟨(p : Int) - 1, by go_num, by omega, by omega, HN⟩
            case measure => simp [intOf]; omega
          · obtain ⟨L, v, hinv, hL⟩ := HX.out
            have hz : (x - (4 - 1)).toNat = 0 := by omega
            rw [hz, Pl.down, List.append_nil] at hL
            have HL : Hid (L = Pl.tags a M mn) := hL
            obtain ⟨g9, c9, rfl⟩ := own_slice hinv.2.2.2.1
            have hTc := cell_of_one hinv.2.2.1
            have HV := show Hid _ from hinv
            clear hinv HX hL
            go_wp2
            go_ret
            rw [← HL.out]
            exact ⟨⟨_, rfl, HV.out.2.2.2.1, HV.out.2.2.2.2.2⟩, HV.out.1.2.1⟩
  ·
    have HR0 : Hid (RowAt (w4.alloc (.cells #[.string a] 9)) w4.heap.size (Pl.fmts a)) := by
      have h7 := rowAt_alloc w4 [a] #[.string a] 9 rfl
      rw [HFM.out] at h7
      exact h7
    have hk : (Pl.fmts a).length = 1 := by rw [← HFM.out]; rfl
    have HI0 : Hid (Inv w.heap.size (w4.heap.size + 1) w4.heap.size w ((w4.alloc (.cells #[.string a] 9)).alloc (.cells #[.slice none 0 0] 46)) (Pl.fmts a) [] (.slice none 0 0)) := by
      have h8 := Inv.start (B := w.heap.size) (N := w4.heap.size) (w0 := w) (w := w4.alloc (.cells #[.string a] 9)) (fs := Pl.fmts a) HB5.out.size HB5.out HR0.out
      have e8 : (w4.alloc (.cells #[.string a] 9)).heap.size = w4.heap.size + 1 := alloc_size _ _
      rw [e8] at h8
      exact h8
    go_wp2
    generalize (w4.alloc (Obj.cells #[Value.string a] 9)).alloc (Obj.cells #[Value.slice none 0 0] 46) = W at HI0 ⊢
    generalize w4.heap.size + 1 = T at HI0 ⊢
    clear HB5 HR0 HOWN0
    generalize w4.heap.size = N at HI0 ⊢
    go_loopw [18] (fun m wr => ∃ x : Int, m = .int .i64 x ∧ -1048576 ≤ x ∧ x ≤ 1048577 ∧ Hid (∃ L v, Inv w.heap.size T N w wr (Pl.fmts a) L v ∧ L ++ Pl.down (fun m => Pl.blk (Pl.ver11 m) (Pl.fmts a)) 11 (x - (11 - 1)).toNat = Pl.down (fun m => Pl.blk (Pl.ver11 m) (Pl.fmts a)) 11 (M - (11 - 1)).toNat)) (fun m _ => (intOf m - 10).toNat)
    case atStart => exact ⟨M, rfl, hMl, hMu, ⟨[], _, HI0.out, rfl⟩⟩
    case round =>
      obtain ⟨x, rfl, hx0, hx1, HX⟩ := hrel
      clear HI0
      by_cases h4 : 11 ≤ x
      · obtain ⟨p, rfl⟩ : ∃ p : Nat, x = (p : Int) := ⟨x.toNat, by omega⟩
        obtain ⟨L, v, hinv, hL⟩ := HX.out
        have HV : Hid (Inv w.heap.size T N w wr (Pl.fmts a) L v) := hinv
        have HL : Hid (L ++ Pl.down (fun m => Pl.blk (Pl.ver11 m) (Pl.fmts a)) 11 ((p : Int) - (11 - 1)).toNat = Pl.down (fun m => Pl.blk (Pl.ver11 m) (Pl.fmts a)) 11 (M - (11 - 1)).toNat) := hL
        have hlen : L.length + 6 ≤ 1000000000 := by
          have h9 := congrArg List.length hL
          rw [List.length_append] at h9
          omega
        clear hinv hL HX
        have hps := itoa_size8 p (by omega)
        have n1 : ¬ (9223372036854775807 < (Pl.mk (Lib.itoa (p : Int))).size + 2) := by omega
        go_wp2_with fail
        go_at_call 50
        refine (itoa_lib (p : Int) _ (HE.out.keep HV.out.1.2.1) (by omega) (by omega)).mono ?_
        rintro e wi ⟨rfl, hbi⟩
        have HVi : Hid (Inv w.heap.size T N w wi (Pl.fmts a) L v) := HV.out.keep hbi
        clear hbi HV
        go_wp2_with fail
        go_at_call 49
        refine (add_any w.heap.size T N w _ (Pl.fmts a) L v _ _ _ hk HVi.out (by rw [ByteArray.size_append]; show _ + 2 ≤ _; omega) HF.out (by omega)).mono ?_
        rintro e w7 ⟨rfl, v7, hinv7⟩
        rw [ver11_bytes (p : Int) _ rfl] at hinv7
        have HN : Hid (∃ L v, Inv w.heap.size T N w w7 (Pl.fmts a) L v ∧ L ++ Pl.down (fun m => Pl.blk (Pl.ver11 m) (Pl.fmts a)) 11 ((p : Int) - 1 - (11 - 1)).toNat = Pl.down (fun m => Pl.blk (Pl.ver11 m) (Pl.fmts a)) 11 (M - (11 - 1)).toNat) := by
          refine ⟨_, v7, hinv7, ?_⟩
          rw [List.append_assoc, ← HL.out, down_step _ 11 (p : Int) h4]
        clear hinv7 HVi HL
        go_wp2
        go_roundw
        case rel => exact ⟨(p : Int) - 1, by go_num, by omega, by omega, HN⟩
        case measure => simp [intOf]; omega
      · obtain ⟨L, v, hinv, hL⟩ := HX.out
        have hz : (x - (11 - 1)).toNat = 0 := by omega
        rw [hz, Pl.down, List.append_nil] at hL
        have HI3 : Hid (∃ L v, Inv w.heap.size T wr.heap.size w (wr.alloc (.cells #[.string Pl.tU2] 9)) (Pl.low a) L v ∧ L ++ Pl.down (fun m => Pl.blk (Pl.ver10 m) (Pl.low a)) 4 ((16 : Int) - (4 - 1)).toNat = Pl.tags a M mn) := ⟨L, v, by rw [HLOW.out]; exact hinv.swap, by rw [hL]; exact HTG.out⟩
        have hk2 : (Pl.low a).length = 1 := by rw [HLOW.out]; rfl
        clear hinv hL HX
        go_wp2
        generalize wr.heap.size = N2 at HI3 ⊢
        go_loopw [19] (fun m wr => ∃ x : Int, m = .int .i64 x ∧ 3 ≤ x ∧ x ≤ 16 ∧ Hid (∃ L v, Inv w.heap.size T N2 w wr (Pl.low a) L v ∧ L ++ Pl.down (fun m => Pl.blk (Pl.ver10 m) (Pl.low a)) 4 (x - (4 - 1)).toNat = Pl.tags a M mn)) (fun m _ => (intOf m - 3).toNat)
        case atStart => exact ⟨16, rfl, by omega, by omega, HI3⟩
        case round =>
          obtain ⟨x, rfl, hx0, hx1, HX⟩ := hrel
          clear HI3
          by_cases h4 : 4 ≤ x
          · obtain ⟨p, rfl⟩ : ∃ p : Nat, x = (p : Int) := ⟨x.toNat, by omega⟩
            obtain ⟨L, v, hinv, hL⟩ := HX.out
            have HV : Hid (Inv w.heap.size T N2 w _ (Pl.low a) L v) := hinv
            have HL : Hid (L ++ Pl.down (fun m => Pl.blk (Pl.ver10 m) (Pl.low a)) 4 ((p : Int) - (4 - 1)).toNat = Pl.tags a M mn) := hL
            have hlen : L.length + 6 ≤ 1000000000 := by
              have h9 := congrArg List.length hL
              rw [← HTG.out, List.length_append, List.length_append, Pl.down_length (fun m => Pl.blk (Pl.ver10 m) (Pl.low a)) 4 _ (fun m => Pl.blk_length _ _) 13] at h9
              have := (Pl.low_pos a).2
              have h13 : 13 * (Pl.low a).length ≤ 13 * 6 := Nat.mul_le_mul (Nat.le_refl _) this
              omega
            clear hinv hL HX
            have hps := itoa_size8 p (by omega)
            have n1 : ¬ (9223372036854775807 < 3 + (Pl.mk (Lib.itoa (p : Int))).size) := by omega
            go_wp2_with fail
            go_at_call 50
            refine (itoa_lib (p : Int) _ (HE.out.keep HV.out.1.2.1) (by omega) (by omega)).mono ?_
            rintro e wi ⟨rfl, hbi⟩
            have HVi : Hid (Inv w.heap.size T N2 w wi (Pl.low a) L v) := HV.out.keep hbi
            clear hbi HV
            go_wp2_with fail
            go_at_call 49
            refine (add_any w.heap.size T N2 w _ (Pl.low a) L v _ _ _ hk2 HVi.out (by rw [ByteArray.size_append]; show 3 + _ ≤ _; omega) HF2.out (by omega)).mono ?_
            rintro e w7 ⟨rfl, v7, hinv7⟩
            rw [ver10_bytes (p : Int) _ rfl] at hinv7
            have HN : Hid (∃ L v, Inv w.heap.size T N2 w w7 (Pl.low a) L v ∧ L ++ Pl.down (fun m => Pl.blk (Pl.ver10 m) (Pl.low a)) 4 ((p : Int) - 1 - (4 - 1)).toNat = Pl.tags a M mn) := by
              refine ⟨_, v7, hinv7, ?_⟩
              rw [List.append_assoc, ← HL.out, down_step _ 4 (p : Int) h4]
            clear hinv7 HVi HL
            go_wp2
            go_roundw
            case rel => exact ⟨(p : Int) - 1, by go_num, by omega, by omega, HN⟩
            case measure => simp [intOf]; omega
          · obtain ⟨L, v, hinv, hL⟩ := HX.out
            have hz : (x - (4 - 1)).toNat = 0 := by omega
            rw [hz, Pl.down, List.append_nil] at hL
            have HL : Hid (L = Pl.tags a M mn) := hL
            obtain ⟨g9, c9, rfl⟩ := own_slice hinv.2.2.2.1
            have hTc := cell_of_one hinv.2.2.1
            have HV := show Hid _ from hinv
            clear hinv HX hL
            go_wp2
            go_ret
            rw [← HL.out]
            exact ⟨⟨_, rfl, HV.out.2.2.2.1, HV.out.2.2.2.2.2⟩, HV.out.1.2.1⟩
end Go.Proofs.Qxb6601124aDoor
