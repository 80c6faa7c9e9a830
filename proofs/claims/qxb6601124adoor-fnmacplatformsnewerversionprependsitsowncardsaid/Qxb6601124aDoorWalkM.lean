/-
  THE WALKS: zzMacNewer, the law FnMacPlatformsNewerVersionPrependsItsOwn.
-/
import Derived.Test.Qxb6601124aDoorWalkL
import Derived.Test.Qxb6601124aDoorPlain2
namespace Go.Proofs.Qxb6601124aDoor
open Go.RowKit
set_option linter.unusedSimpArgs false
set_option linter.unusedVariables false

def NewerIs (s v : ByteArray) (b : Bool) (e : Ending) : Prop := e = .returned (.tuple #[.string s, .string v, .bool b])

theorem newerIs {s v s' v' : ByteArray} {b : Bool} (h : s' = s) (k : v' = v) : NewerIs s v b (.returned (.tuple #[.string s', .string v', .bool b])) := by rw [h, k]; rfl

set_option maxHeartbeats 2000000 in
set_option maxRecDepth 100000 in
theorem newer_11 (os : ByteArray) (M mn : Int) (w : World) (hs : os.size ≤ 131072) (h11 : 11 ≤ M) (hM : M ≤ 1048576) :
    Calls Tryd.prog 33 #[.string os, .int .i64 M, .int .i64 mn] w fun e w' => NewerIs (Pl.mk (Pl.newer11 os.data.toList M)) (Pl.mk (Pl.ver11 (M + 1))) true e ∧ Below w.heap.size w w' := by
  obtain ⟨p, hp⟩ : ∃ p : Nat, M + 1 = (p : Int) := ⟨(M + 1).toNat, by omega⟩
  have hp0 : 0 < p := by omega
  have hp1 : p < 10000000 := by omega
  have wp : IntKind.i64.wrap (p : Int) = (p : Int) := wrap_small _ (by omega) (by omega)
  have hps := itoa_size p hp1
  obtain ⟨L, hL⟩ : ∃ L : Nat, (Pl.mk (Pl.cutL os.data.toList).1).size = L := ⟨_, rfl⟩
  have hLle : L ≤ os.size := by
    rw [← hL, Pl.mk_size, ← by_len]
    exact (Pl.cutL_len os.data.toList).1
  have HN1 : Hid (Pl.mk (Lib.itoa (p : Int)) ++ os.extract L os.size = Pl.mk (Pl.newer11 os.data.toList M)) := by
    show _ = _
    apply Pl.eq_mk
    rw [ByteArray.data_append, Array.toList_append, Pl.mk_bytes, Lib.extract_to_end, ← hL, Pl.mk_size]
    unfold Pl.newer11 Pl.majL
    rw [hp]
  have HN2 : Hid (Pl.mk (Lib.itoa (p : Int)) ++ { data := #[95, 48] } = Pl.mk (Pl.ver11 (M + 1))) := by
    show _ = _
    apply Pl.eq_mk
    rw [ByteArray.data_append, Array.toList_append, Pl.mk_bytes, hp]
    rfl
  have hes : (os.extract L os.size).size ≤ 131072 := by rw [ByteArray.size_extract]; omega
  have n1 : ¬ (9223372036854775807 < (Pl.mk (Lib.itoa (p : Int))).size + (os.extract L os.size).size) := by omega
  have n1' : ¬ (9223372036854775807 < (Pl.mk (Lib.itoa (p : Int))).size + (os.size - L)) := by omega
  have n2 : ¬ (9223372036854775807 < (Pl.mk (Lib.itoa (p : Int))).size + 2) := by omega
  have g1 : (0 : Int) ≤ (L : Int) := by omega
  have g2 : (L : Int) ≤ (os.size : Int) := by omega
  have h11' : 11 ≤ M := h11
  go_enter Tryd.func33, Tryd.ntmps33
  go_wp2_with fail
  go_at_call 40
  refine (zzCut_any os _ (by omega)).mono ?_
  rintro e w1 ⟨rfl, hb1⟩
  have HB0 : Hid (Below w.heap.size w w1) := hb1
  clear hb1
  go_wp2
  go_region_held3 (fun _ => True) (trivial) ((go_at_call 43; (refine (itoa_any p _ hp0 hp1).mono ?_); rintro e w9 ⟨rfl, hb9⟩; first | (have HB2 : Hid (Below w.heap.size w w9) := HB1.out.trans (hb9.mono HB1.out.size); clear hb9) | (have HB1 : Hid (Below w.heap.size w w9) := HB0.out.trans ((below_drew hb9).mono HB0.out.size); clear hb9)))
  all_goals
    go_wp2
    go_ret3
    exact ⟨newerIs HN1.out HN2.out, HB2.out⟩

set_option maxHeartbeats 2000000 in
set_option maxRecDepth 100000 in
theorem newer_10 (os : ByteArray) (mn : Int) (w : World) (h3 : 3 ≤ mn) (hmn : mn ≤ 1048577) :
    Calls Tryd.prog 33 #[.string os, .int .i64 10, .int .i64 mn] w fun e w' => NewerIs (Pl.mk (Pl.newer10 mn)) (Pl.mk (Pl.ver10 (mn + 1))) true e ∧ Below w.heap.size w w' := by
  obtain ⟨p, hp⟩ : ∃ p : Nat, mn + 1 = (p : Int) := ⟨(mn + 1).toNat, by omega⟩
  have hp0 : 0 < p := by omega
  have hp1 : p < 10000000 := by omega
  have wp : IntKind.i64.wrap (p : Int) = (p : Int) := wrap_small _ (by omega) (by omega)
  have hps := itoa_size p hp1
  have HN1 : Hid ({ data := #[49, 48, 46] } ++ Pl.mk (Lib.itoa (p : Int)) = Pl.mk (Pl.newer10 mn)) := by
    show _ = _
    apply Pl.eq_mk
    rw [ByteArray.data_append, Array.toList_append, Pl.mk_bytes, Pl.newer10, hp]
  have HN2 : Hid ({ data := #[49, 48, 95] } ++ Pl.mk (Lib.itoa (p : Int)) = Pl.mk (Pl.ver10 (mn + 1))) := by
    show _ = _
    apply Pl.eq_mk
    rw [ByteArray.data_append, Array.toList_append, Pl.mk_bytes, Pl.ver10, hp]
  have n1 : ¬ (9223372036854775807 < 3 + (Pl.mk (Lib.itoa (p : Int))).size) := by omega
  go_enter Tryd.func33, Tryd.ntmps33
  go_wp2_with fail
  go_at_call 43
  refine (itoa_any p _ hp0 hp1).mono ?_
  rintro e w1 ⟨rfl, hb1⟩
  have HB1 : Hid (Below w.heap.size w w1) := hb1
  clear hb1
  go_wp2_with fail
  go_at_call 43
  refine (itoa_any p _ hp0 hp1).mono ?_
  rintro e w2 ⟨rfl, hb2⟩
  have HB2 : Hid (Below w.heap.size w w2) := HB1.out.trans (hb2.mono HB1.out.size)
  clear hb2
  go_wp2
  go_ret3
  exact ⟨newerIs HN1.out HN2.out, HB2.out⟩

set_option maxHeartbeats 2000000 in
set_option maxRecDepth 100000 in
theorem newer_no (os : ByteArray) (M mn : Int) (w : World) (h11 : ¬ 11 ≤ M) (h10 : M = 10 → ¬ 3 ≤ mn) :
    Calls Tryd.prog 33 #[.string os, .int .i64 M, .int .i64 mn] w fun e w' => NewerIs ByteArray.empty ByteArray.empty false e ∧ Below w.heap.size w w' := by
  by_cases h : (M == 10) = true
  · have h3 := h10 (by simpa using h)
    clear h10
    go_enter Tryd.func33, Tryd.ntmps33
    go_wp2
    go_ret3
    exact ⟨rfl, Below.refl _ _⟩
  · have h' : (M == 10) = false := by simpa using h
    clear h h10
    go_enter Tryd.func33, Tryd.ntmps33
    go_wp2
    go_ret3
    exact ⟨rfl, Below.refl _ _⟩

/-- What zzMacNewer answers. -/
theorem newer_any (os : ByteArray) (M mn : Int) (w : World) (hs : os.size ≤ 131072) (hM : M ≤ 1048576) (hmn : M = 10 → mn ≤ 1048577) :
    Calls Tryd.prog 33 #[.string os, .int .i64 M, .int .i64 mn] w fun e w' => (∃ s v b, NewerIs s v b e ∧ (b = true → (s = Pl.mk (Pl.newer11 os.data.toList M) ∧ v = Pl.mk (Pl.ver11 (M + 1)) ∧ 11 ≤ M) ∨ (s = Pl.mk (Pl.newer10 mn) ∧ v = Pl.mk (Pl.ver10 (mn + 1)) ∧ M = 10 ∧ 3 ≤ mn))) ∧ Below w.heap.size w w' := by
  by_cases h11 : 11 ≤ M
  · exact (newer_11 os M mn w hs h11 hM).mono fun e w' ⟨h1, h2⟩ => ⟨⟨_, _, _, h1, fun _ => .inl ⟨rfl, rfl, h11⟩⟩, h2⟩
  · by_cases h10 : M = 10
    · by_cases h3 : 3 ≤ mn
      · subst h10
        exact (newer_10 os mn w h3 (hmn rfl)).mono fun e w' ⟨h1, h2⟩ => ⟨⟨_, _, _, h1, fun _ => .inr ⟨rfl, rfl, rfl, h3⟩⟩, h2⟩
      · exact (newer_no os M mn w h11 (fun _ => h3)).mono fun e w' ⟨h1, h2⟩ => ⟨⟨_, _, _, h1, fun e => by cases e⟩, h2⟩
    · exact (newer_no os M mn w h11 (fun e => absurd e h10)).mono fun e w' ⟨h1, h2⟩ => ⟨⟨_, _, _, h1, fun e => by cases e⟩, h2⟩

/-- The next release's list is its own tags and the old list. -/
theorem newer_got (a : ByteArray) (l : List UInt8) (M mn : Int) (s v : ByteArray) (hok : Pl.pOk l = true) (hM : Pl.pMaj l = M) (hmn : Pl.pMin l = mn)
    (h : (s = Pl.mk (Pl.newer11 l M) ∧ v = Pl.mk (Pl.ver11 (M + 1)) ∧ 11 ≤ M) ∨ (s = Pl.mk (Pl.newer10 mn) ∧ v = Pl.mk (Pl.ver10 (mn + 1)) ∧ M = 10 ∧ 3 ≤ mn)) (ht : Pl.pThrough s.data.toList = true) :
    Pl.got a s.data.toList = Pl.blk v.data.toList (Pl.fmts a) ++ Pl.got a l := by
  rcases h with ⟨rfl, rfl, h11⟩ | ⟨rfl, rfl, h10, h3⟩
  · rw [Pl.mk_bytes] at ht ⊢
    rw [Pl.mk_bytes]
    exact Pl.got_11 a l M hok hM h11 ht
  · rw [Pl.mk_bytes] at ht ⊢
    rw [Pl.mk_bytes]
    exact Pl.got_10 a l mn hok (hM.trans h10) hmn h3 ht

theorem newer_size (l : List UInt8) (M mn : Int) (s v : ByteArray) (hl : l.length ≤ 131072) (hM : M ≤ 1048576) (hmn : M = 10 → mn ≤ 1048577)
    (h : (s = Pl.mk (Pl.newer11 l M) ∧ v = Pl.mk (Pl.ver11 (M + 1)) ∧ 11 ≤ M) ∨ (s = Pl.mk (Pl.newer10 mn) ∧ v = Pl.mk (Pl.ver10 (mn + 1)) ∧ M = 10 ∧ 3 ≤ mn)) : s.size ≤ 1048576 ∧ v.size ≤ 100 := by
  have key : ∀ x : Int, 0 ≤ x → x < 10000000 → (Lib.itoa x).length ≤ 7 := by
    intro x h0 h1
    have := itoa_size x.toNat (by omega)
    rw [Pl.mk_size, Int.toNat_of_nonneg h0] at this
    exact this
  rcases h with ⟨rfl, rfl, h11⟩ | ⟨rfl, rfl, h10, h3⟩
  · have k := key (M + 1) (by omega) (by omega)
    rw [Pl.mk_size, Pl.mk_size]
    simp only [Pl.newer11, Pl.ver11, List.length_append, List.length_drop, List.length_cons, List.length_nil]
    omega
  · have := hmn h10
    have k := key (mn + 1) (by omega) (by omega)
    rw [Pl.mk_size, Pl.mk_size]
    simp only [Pl.newer10, Pl.ver10, List.length_append, List.length_cons, List.length_nil]
    omega

set_option maxHeartbeats 4000000 in
set_option maxRecDepth 100000 in
theorem walk8 (m im ex pl gl os : ByteArray) (h : Bool) (v0 v1 v2 bits : Int) (w : World) (hE : Env w) :
    Calls Tryd.prog 8 #[.string m, .bool h, .string im, .agg #[.int .i64 v0, .int .i64 v1, .int .i64 v2], .string ex, .string pl, .int .i64 bits, .string gl, .string os] w fun e w' => e = .returned (.bool true) ∧ Below w.heap.size w w' := by
  have HE : Hid (Env w) := hE
  clear hE
  go_enter Tryd.func8, Tryd.ntmps8
  go_wp2_with fail
  go_at_call 32
  refine (bytes32 m im ex pl gl os h v0 v1 v2 bits _).mono ?_
  rintro e w1 ⟨⟨b, rfl⟩, hb1⟩
  have HB1 : Hid (Below (w.alloc (.cells #[.int .i64 v0, .int .i64 v1, .int .i64 v2] 40)).heap.size (w.alloc (.cells #[.int .i64 v0, .int .i64 v1, .int .i64 v2] 40)) w1) := hb1
  clear hb1
  cases b with
  | false =>
    go_wp2
    go_ret
    exact ⟨rfl, below_first HB1.out⟩
  | true =>
    by_cases h1 : 131072 < m.size
    · go_wp2
      go_ret
      exact ⟨rfl, below_first HB1.out⟩
    by_cases h2 : 131072 < im.size
    · go_wp2
      go_ret
      exact ⟨rfl, below_first HB1.out⟩
    by_cases h3 : 131072 < ex.size
    · go_wp2
      go_ret
      exact ⟨rfl, below_first HB1.out⟩
    by_cases h4 : 131072 < pl.size
    · go_wp2
      go_ret
      exact ⟨rfl, below_first HB1.out⟩
    by_cases h5 : 131072 < gl.size
    · go_wp2
      go_ret
      exact ⟨rfl, below_first HB1.out⟩
    by_cases h6 : 131072 < os.size
    · go_wp2
      go_ret
      exact ⟨rfl, below_first HB1.out⟩
    go_wp2_with fail
    go_at_call 24
    refine (arch_any m h _).mono ?_
    rintro e w2 ⟨rfl, rfl⟩
    obtain ⟨a, hadef⟩ : ∃ a, arch m h = a := ⟨_, rfl⟩
    have ha : a.size ≤ 131072 := by
      rw [← hadef]
      unfold arch
      split
      · omega
      · exact Nat.zero_le _
    have HI : Hid (∀ (os : ByteArray) w, Calls Tryd.prog 29 #[.string m, .bool h, .string im, .agg #[.int .i64 v0, .int .i64 v1, .int .i64 v2], .string ex, .string pl, .int .i64 bits, .string gl, .string os] w fun e w' =>
      ∃ mv, e = .returned (interp mv im ex pl gl os v0 v1 v2 bits) ∧ MapIs w' mv a ∧ Below w.heap.size w w') := fun os w => by rw [← hadef]; exact interp_any m im ex pl gl os h v0 v1 v2 bits w
    rw [hadef]
    clear hadef
    go_wp2_with fail
    go_at_call 25
    refine (fits_any a os _ (by omega) (by omega)).mono ?_
    rintro e w3 ⟨rfl, hb3⟩
    have HB3 : Hid (Below (w.alloc (.cells #[.int .i64 v0, .int .i64 v1, .int .i64 v2] 40)).heap.size (w.alloc (.cells #[.int .i64 v0, .int .i64 v1, .int .i64 v2] 40)) w3) := HB1.out.trans (hb3.mono HB1.out.size)
    clear hb3
    cases hf : fits a os.data.toList with
    | false =>
      go_wp2
      go_ret
      exact ⟨rfl, below_first HB3.out⟩
    | true =>
      obtain ⟨M, hMd⟩ : ∃ x, Pl.pMaj os.data.toList = x := ⟨_, rfl⟩
      obtain ⟨mn, hmd⟩ : ∃ x, Pl.pMin os.data.toList = x := ⟨_, rfl⟩
      obtain ⟨ok, hokd⟩ : ∃ x, Pl.pOk os.data.toList = x := ⟨_, rfl⟩
      obtain ⟨th, hthd⟩ : ∃ x, Pl.pThrough os.data.toList = x := ⟨_, rfl⟩
      have rM := pMaj_range os.data.toList
      have rm := pMin_wide os.data.toList
      have HSM : Hid (ok = true → M = 10 → mn ≤ 1048577) := by
        intro k1 k2
        have := pMin_small os.data.toList (by rw [hokd]; exact k1) (by rw [hMd]; exact k2)
        rw [hmd] at this
        omega
      have HP : Hid (∀ e, ParseIs os.data.toList e → e = .returned (.tuple #[.int .i64 M, .bool ok, .int .i64 mn, .bool th])) := by
        intro e h
        rw [ParseIs, hMd, hmd, hokd, hthd] at h
        exact h
      have HTH : Hid (Pl.pThrough os.data.toList = true) := by
        show _ = _
        have h8 := hf
        unfold fits at h8
        simp only [Bool.and_eq_true] at h8
        exact h8.1
      have HMD : Hid (Pl.pMaj os.data.toList = M ∧ Pl.pMin os.data.toList = mn ∧ Pl.pOk os.data.toList = ok) := ⟨hMd, hmd, hokd⟩
      have hcb : (Pl.got a os.data.toList).length ≤ 16777216 := by
        have h8 := hf
        unfold fits at h8
        simp only [Bool.and_eq_true, decide_eq_true_eq] at h8
        rw [got_length]
        exact Nat.le_trans (Nat.le_mul_of_pos_right _ (by omega)) h8.2
      rw [hMd] at rM
      rw [hmd] at rm
      obtain ⟨rM0, rM1⟩ := rM
      clear hMd hmd hokd hthd hf rm
      go_wp2_with fail
      go_at_call 26
      refine (parse_any os _ (by omega)).mono ?_
      rintro e w4 ⟨he, hb4⟩
      replace he := HP.out _ he
      subst he
      have HB4 : Hid (Below (w.alloc (.cells #[.int .i64 v0, .int .i64 v1, .int .i64 v2] 40)).heap.size (w.alloc (.cells #[.int .i64 v0, .int .i64 v1, .int .i64 v2] 40)) w4) := HB3.out.trans (hb4.mono HB3.out.size)
      clear hb4 HP
      cases ok with
      | false =>
        go_wp2
        go_ret
        exact ⟨rfl, below_first HB4.out⟩
      | true =>
        go_wp2_with fail
        go_at_call 33
        refine (newer_any os M mn _ (by omega) rM1 (HSM.out (by simp))).mono ?_
        rintro e w5 ⟨⟨ns, ver, nb, he, hcase⟩, hb5⟩
        unfold NewerIs at he
        subst he
        have HB5 : Hid (Below (w.alloc (.cells #[.int .i64 v0, .int .i64 v1, .int .i64 v2] 40)).heap.size (w.alloc (.cells #[.int .i64 v0, .int .i64 v1, .int .i64 v2] 40)) w5) := HB4.out.trans (hb5.mono HB4.out.size)
        clear hb5
        cases nb with
        | false =>
          go_wp2
          go_ret
          exact ⟨rfl, below_first HB5.out⟩
        | true =>
          have hcase' := hcase rfl
          obtain ⟨hns, hvs⟩ := newer_size os.data.toList M mn ns ver (by rw [by_len]; omega) rM1 (HSM.out (by simp)) hcase'
          have HCASE := show Hid _ from hcase'
          clear hcase hcase'
          go_wp2_with fail
          go_at_call 25
          refine (fits_any a ns _ (by omega) hns).mono ?_
          rintro e w6 ⟨rfl, hb6⟩
          have HB6 : Hid (Below (w.alloc (.cells #[.int .i64 v0, .int .i64 v1, .int .i64 v2] 40)).heap.size (w.alloc (.cells #[.int .i64 v0, .int .i64 v1, .int .i64 v2] 40)) w6) := HB5.out.trans (hb6.mono HB5.out.size)
          clear hb6
          cases hf2 : fits a ns.data.toList with
          | false =>
            go_wp2
            go_ret
            exact ⟨rfl, below_first HB6.out⟩
          | true =>
            have hth2 : Pl.pThrough ns.data.toList = true := by
              unfold fits at hf2
              simp only [Bool.and_eq_true] at hf2
              exact hf2.1
            have HTH2 := show Hid _ from hth2
            have HGOT : Hid (Pl.got a ns.data.toList = Pl.blk ver.data.toList (Pl.fmts a) ++ Pl.got a os.data.toList) := newer_got a _ M mn ns ver HMD.out.2.2 HMD.out.1 HMD.out.2.1 HCASE.out hth2
            clear hf2 hth2
            obtain ⟨bx0, bx1, bx2⟩ := box_cells w v0 v1 v2 w6 HB6.out
            go_wp2_with fail
            go_at_call 29
            refine (HI.out os _).mono ?_
            rintro e w7 ⟨mv, rfl, hmap, hb7⟩
            have HB7 : Hid (Below (w.alloc (.cells #[.int .i64 v0, .int .i64 v1, .int .i64 v2] 40)).heap.size (w.alloc (.cells #[.int .i64 v0, .int .i64 v1, .int .i64 v2] 40)) w7) := HB6.out.trans (hb7.mono HB6.out.size)
            have HMAP : Hid (MapIs w7 mv a) := hmap
            clear hb7 hmap bx0 bx1 bx2
            go_wp2_with fail
            go_at_call 28
            refine (zzmac_any mv a im ex pl gl os v0 v1 v2 bits _ HMAP.out (HE.out.keep (below_first HB7.out)) (by omega) (by omega) HTH.out).mono ?_
            rintro e w8 ⟨⟨vo, rfl, hown, hnil⟩, hb8⟩
            have HB8 : Hid (Below (w.alloc (.cells #[.int .i64 v0, .int .i64 v1, .int .i64 v2] 40)).heap.size (w.alloc (.cells #[.int .i64 v0, .int .i64 v1, .int .i64 v2] 40)) w8) := HB7.out.trans (hb8.mono HB7.out.size)
            have HOWN : Hid (w8.ownsRow w7.heap.size 9 1 vo (Pl.got a os.data.toList).length ((Pl.got a os.data.toList).map Value.string)) := hown
            clear hb8 hown hnil HMAP HTH
            obtain ⟨bx0, bx1, bx2⟩ := box_cells w v0 v1 v2 w8 HB8.out
            go_wp2_with fail
            go_at_call 29
            refine (HI.out ns _).mono ?_
            rintro e w9 ⟨mv2, rfl, hmap2, hb9⟩
            have HB9 : Hid (Below (w.alloc (.cells #[.int .i64 v0, .int .i64 v1, .int .i64 v2] 40)).heap.size (w.alloc (.cells #[.int .i64 v0, .int .i64 v1, .int .i64 v2] 40)) w9) := HB8.out.trans (hb9.mono HB8.out.size)
            have HMAP2 : Hid (MapIs w9 mv2 a) := hmap2
            have HOWN9 : Hid (w9.ownsRow w7.heap.size 9 1 vo (Pl.got a os.data.toList).length ((Pl.got a os.data.toList).map Value.string)) := ownsRow_below HOWN.out hb9
            clear hb9 hmap2 bx0 bx1 bx2 HOWN HI
            go_wp2_with fail
            go_at_call 28
            refine (zzmac_any mv2 a im ex pl gl ns v0 v1 v2 bits _ HMAP2.out (HE.out.keep (below_first HB9.out)) hns (by omega) HTH2.out).mono ?_
            rintro e w10 ⟨⟨vn, rfl, hown2, hnil2⟩, hb10⟩
            have HB10 : Hid (Below w.heap.size w w10) := (below_first HB9.out).trans (hb10.mono (below_first HB9.out).size)
            have HOLD : Hid (w10.ownsRow w7.heap.size 9 1 vo (Pl.got a os.data.toList).length ((Pl.got a os.data.toList).map Value.string)) := ownsRow_below HOWN9.out hb10
            obtain ⟨n1, hn1⟩ : ∃ n, (Pl.got a os.data.toList).length = n := ⟨_, rfl⟩
            obtain ⟨k, hk⟩ : ∃ k, (Pl.fmts a).length = k := ⟨_, rfl⟩
            have hk1 : 1 ≤ k ∧ k ≤ 6 := by rw [← hk]; exact Pl.fmts_pos a
            have hn2 : (Pl.got a ns.data.toList).length = n1 + k := by rw [HGOT.out, List.length_append, Pl.blk_length, hk, hn1]; omega
            obtain ⟨g2, c2, rfl, hR2, _⟩ := own_row hown2 rfl (by omega)
            rw [hn2]
            have HR2 : Hid (RowAt w10 g2 (Pl.got a ns.data.toList)) := hR2
            have hold := HOLD.out
            rw [hn1] at hold hcb
            obtain ⟨ao, c1, rfl⟩ := own_slice hold
            have HAO : Hid (0 < n1 → ∃ g1, ao = some ⟨g1, 0, none⟩ ∧ RowAt w10 g1 (Pl.got a os.data.toList)) := by
              intro hp
              obtain ⟨g1, c', he, hr, _⟩ := own_row hold hn1 hp
              injection he with e1 e2 e3
              exact ⟨g1, e1, hr⟩
            have HK : Hid ((Pl.fmts a).length = k) := hk
            have HN1 : Hid ((Pl.got a os.data.toList).length = n1) := hn1
            clear hown2 hnil2 hb10 HMAP2 HTH2 HOWN9 HOLD hold hR2 hn2 hn1 hk HE HCASE HMD HSM HB9 HB8 HB7 HB6 HB5 HB4 HB3 HB1
            go_wp2_with fail
            go_at_call 30
            refine (fmts_any a k HK.out _).mono ?_
            rintro e w11 ⟨⟨N, rfl, hN, hrow⟩, hb11⟩
            have HB11 : Hid (Below w.heap.size w w11) := HB10.out.trans (hb11.mono HB10.out.size)
            have HR : Hid (RowAt w11 g2 (Pl.got a ns.data.toList)) := HR2.out.keep hb11
            have HF : Hid (RowAt w11 N (Pl.fmts a)) := hrow
            have HO : Hid (0 < n1 → ∃ g1, ao = some ⟨g1, 0, none⟩ ∧ RowAt w11 g1 (Pl.got a os.data.toList)) := by
              intro hp
              obtain ⟨g1, e1, hr⟩ := HAO.out hp
              exact ⟨g1, e1, hr.keep hb11⟩
            clear hb11 hrow hN HAO HR2 HB10
            have wn : IntKind.i64.wrap ((n1 : Int) + (k : Int)) = (n1 : Int) + (k : Int) := wrap_small _ (by omega) (by omega)
            have HFS : Hid (∀ j, ((Pl.fmts a).getD j ByteArray.empty).size ≤ 1048576) := fmts_size a (by omega)
            go_wp2
            go_loopw [31] (fun i wr => ∃ q : Nat, q ≤ k ∧ i = .int .i64 q ∧ Hid (Below w11.heap.size w11 wr)) (fun i _ => k - (intOf i).toNat)
            case atStart => exact ⟨0, by omega, by go_num, Below.refl _ _⟩
            case round =>
              obtain ⟨q, hq, rfl, HBr⟩ := hrel
              by_cases hlt : q < k
              · obtain ⟨f, hfd⟩ : ∃ f, f = (Pl.fmts a).getD q ByteArray.empty := ⟨_, rfl⟩
                have hcf : wr.cell? ⟨N, q, none⟩ = some (.string f) := by rw [hfd]; exact (HF.out.keep HBr.out).2 q (by rw [HK.out]; exact hlt)
                have hcn : wr.cell? ⟨g2, q, none⟩ = some (.string ({ data := #[109, 97, 99, 111, 115, 120, 95] } ++ ver ++ { data := #[95] } ++ f)) := by
                  have h12 := (HR.out.keep HBr.out).2 q (by rw [HGOT.out, List.length_append, Pl.blk_length, HK.out]; omega)
                  rw [h12, HGOT.out, List.getD_eq_getElem?_getD, List.getElem?_append_left (by rw [Pl.blk_length, HK.out]; exact hlt), ← List.getD_eq_getElem?_getD, Pl.blk_get _ _ _ (by rw [HK.out]; exact hlt), ← hfd]
                  rw [tag_eq ver f ({ data := #[109, 97, 99, 111, 115, 120, 95] } ++ ver ++ { data := #[95] } ++ f) (by simp [ByteArray.data_append])]
                have hsz : f.size ≤ 1048576 := by rw [hfd]; exact HFS.out q
                clear hfd
                have g1 : (0 : Int) ≤ (q : Int) := by omega
                have g3 : (q : Int) < (k : Int) := by omega
                have g4 : (q : Int) < (n1 : Int) + (k : Int) := by omega
                have m1 : ¬ (9223372036854775807 < 7 + ver.size) := by omega
                have m2 : ¬ (9223372036854775807 < 7 + ver.size + 1) := by omega
                have m3 : ¬ (9223372036854775807 < 7 + ver.size + 1 + f.size) := by omega
                go_wp2
                go_quiet (fail)
                go_wp2
                go_roundw
                case rel => exact ⟨q + 1, by omega, by go_num, below_drewN HBr.out _⟩
                case measure => simp [intOf]; omega
              · go_wp2
                go_loopw [32] (fun i wr => ∃ q : Nat, q ≤ n1 ∧ i = .int .i64 q ∧ Hid (Below w11.heap.size w11 wr)) (fun i _ => n1 - (intOf i).toNat)
                case atStart => exact ⟨0, by omega, by go_num, HBr.out⟩
                case round =>
                  obtain ⟨q2, hq2, rfl, HBs⟩ := hrel
                  by_cases hlt2 : q2 < n1
                  · obtain ⟨g1, hao, hr1⟩ := HO.out (by omega)
                    subst hao
                    have hro := hr1.keep HBs.out
                    obtain ⟨t, htd⟩ : ∃ t, t = (Pl.got a os.data.toList).getD q2 ByteArray.empty := ⟨_, rfl⟩
                    have hco : wr.cell? ⟨g1, q2, none⟩ = some (.string t) := by rw [htd]; exact hro.2 q2 (by rw [HN1.out]; exact hlt2)
                    have hcn : wr.cell? ⟨g2, k + q2, none⟩ = some (.string t) := by
                      have h12 := (HR.out.keep HBs.out).2 (k + q2) (by rw [HGOT.out, List.length_append, Pl.blk_length, HK.out, HN1.out]; omega)
                      rw [h12, HGOT.out, List.getD_eq_getElem?_getD, List.getElem?_append_right (by rw [Pl.blk_length, HK.out]; omega), Pl.blk_length, HK.out, Nat.add_sub_cancel_left, ← List.getD_eq_getElem?_getD, ← htd]
                    clear htd hro hr1
                    have g1' : (0 : Int) ≤ (q2 : Int) := by omega
                    have g3 : (q2 : Int) < (n1 : Int) := by omega
                    have wkq : IntKind.i64.wrap ((k : Int) + (q2 : Int)) = ((k + q2 : Nat) : Int) := by rw [wrap_small _ (by omega) (by omega)]; omega
                    have g4 : (0 : Int) ≤ ((k + q2 : Nat) : Int) := by omega
                    have g5 : k + q2 < n1 + k := by omega
                    have g6 : (k : Int) + (q2 : Int) < (n1 : Int) + (k : Int) := by omega
                    have g7 : (0 : Int) ≤ (k : Int) + (q2 : Int) := by omega
                    go_wp2
                    go_quiet (fail)
                    go_wp2
                    go_roundw
                    case rel => exact ⟨q2 + 1, by omega, by go_num, below_drewN HBs.out _⟩
                    case measure => simp [intOf]; omega
                  · go_wp2
                    go_ret
                    exact ⟨rfl, HB11.out.trans (HBs.out.mono HB11.out.size)⟩
end Go.Proofs.Qxb6601124aDoor
