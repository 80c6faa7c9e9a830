/-
  THE WALK: the law FnMacPlatformsMatchClosedForm.
-/
import Derived.Test.Qxb6601124aDoorWalkK
namespace Go.Proofs.Qxb6601124aDoor
open Go.RowKit
set_option linter.unusedSimpArgs false
set_option linter.unusedVariables false

theorem got_length (a : ByteArray) (l : List UInt8) : (Pl.got a l).length = Pl.count a (Pl.pMaj l) (Pl.pOk l) (Pl.pMin l) := by
  unfold Pl.got
  cases h : Pl.pOk l with
  | true => rw [if_pos rfl]; exact Pl.tags_length _ _ _
  | false => rw [if_neg (by decide)]; rfl

theorem pMin_small (l : List UInt8) (h : Pl.pOk l = true) (h10 : Pl.pMaj l = 10) : -1048576 ≤ Pl.pMin l ∧ Pl.pMin l ≤ 1048576 := by
  have hM : Pl.pMaj l = Pl.sVal (Pl.majL l) := by unfold Pl.pMaj; rw [if_pos h]
  rw [hM] at h10
  have ho : Pl.sOk (Pl.majL l) = true ∧ Pl.pThrough l = true := by simpa [Pl.pOk] using h
  have hb : Pl.sBig (Pl.majL l) = false := by
    cases hb : Pl.sBig (Pl.majL l) with
    | false => rfl
    | true => have := ho.2; simp [Pl.pThrough, ho.1, hb] at this
  have hbm : Pl.sBig (Pl.minL l) = false := by
    cases hbm : Pl.sBig (Pl.minL l) with
    | false => rfl
    | true => have := ho.2; simp [Pl.pThrough, ho.1, hb, h10, hbm] at this
  unfold Pl.pMin
  rw [if_pos h]
  split
  · rename_i h2
    exact sVal_range _ h2 hbm
  · omega

theorem div_lt {i n k : Nat} (hk : 0 < k) (h : i < n * k) : i / k < n := (Nat.div_lt_iff_lt_mul hk).2 h

theorem want_any (i N k : Nat) (a : ByteArray) (M mn : Int) (w : World) (hk : (Pl.fmts a).length = k) (hrow : RowAt w N (Pl.fmts a)) (ha : a.size ≤ 1048576) (hM0 : -1048576 ≤ M) (hM1 : M ≤ 1048577) (hmn : M = 10 → mn ≤ 1048577) (hi : i < Pl.count a M true mn) :
    Calls Tryd.prog 31 #[.int .i64 (i : Int), .string a, .slice (some ⟨N, 0, none⟩) k k, .int .i64 M, .int .i64 mn] w fun e w' => e = .returned (.string (Pl.want i a M mn)) ∧ Below w.heap.size w w' := by
  have hk0 : 0 < k := by rw [← hk]; exact (Pl.fmts_pos a).1
  have hk6 : k ≤ 6 := by rw [← hk]; exact (Pl.fmts_pos a).2
  have hsz := fmts_size a ha
  unfold Pl.count at hi
  rw [if_pos rfl, hk] at hi
  unfold Pl.want
  rw [hk]
  by_cases h10 : M = 10
  · rw [if_pos h10] at hi ⊢
    have hq := div_lt hk0 hi
    have hm := hmn h10
    have hi2 : i < 1048577 * 6 := Nat.lt_of_lt_of_le hi (Nat.mul_le_mul (by omega) hk6)
    have hq' : ((i / k : Nat) : Int) < mn := by generalize i / k = q at hq ⊢; omega
    rw [h10]
    exact want10 i N k (Pl.fmts a) hk hk0 a mn w hrow (by omega) hq' (by omega) hk6 (hsz _)
  · rw [if_neg h10] at hi ⊢
    by_cases hlt : i < (M - 10).toNat * k
    · rw [if_pos hlt]
      have hq := div_lt hk0 hlt
      have hpos : 0 < (M - 10).toNat := by
        rcases Nat.eq_zero_or_pos (M - 10).toNat with e | e
        · rw [e] at hlt; simp at hlt
        · exact e
      have hq' : ((i / k : Nat) : Int) < M := by generalize i / k = q at hq ⊢; omega
      exact want11 i N k (Pl.fmts a) hk hk0 a M mn w hrow (by omega) (by omega) hq' hlt hk6 (hsz _)
    · rw [if_neg hlt]
      rcases arch_cases a with ⟨hX, _, hlow⟩ | ⟨hX, _, _, hlow⟩ | ⟨hX, _, _, hlow⟩
      · have hl : (Pl.low a).length = k := by rw [hlow]; exact hk
        rw [hl] at hi ⊢
        rw [hlow]
        have hj : i - (M - 10).toNat * k < 13 * k := by omega
        exact wantLowX i N k (Pl.fmts a) hk hk0 a hX M mn w hrow h10 (by omega) (by omega) (i - (M - 10).toNat * k) (by omega) (div_lt hk0 hj) (by omega) hk6 (hsz _)
      · have hl : (Pl.low a).length = 1 := by rw [hlow]; rfl
        rw [hl] at hi ⊢
        rw [hlow, Nat.div_one, Nat.mod_one]
        exact wantLowO i N k (Pl.fmts a) hk hk0 a hX M mn w hrow h10 (by omega) (by omega) (i - (M - 10).toNat * k) (by omega) (by omega) hk6
      · have hl : (Pl.low a).length = 1 := by rw [hlow]; rfl
        rw [hl] at hi ⊢
        rw [hlow, Nat.div_one, Nat.mod_one]
        exact wantLowO i N k (Pl.fmts a) hk hk0 a hX M mn w hrow h10 (by omega) (by omega) (i - (M - 10).toNat * k) (by omega) (by omega) hk6

theorem RowAt.drew {w : World} {N : Nat} {fs : List ByteArray} (h : RowAt w N fs) : RowAt w.drew N fs := h

theorem box_cells (w : World) (v0 v1 v2 : Int) (w' : World) (h : Below (w.alloc (.cells #[.int .i64 v0, .int .i64 v1, .int .i64 v2] 40)).heap.size (w.alloc (.cells #[.int .i64 v0, .int .i64 v1, .int .i64 v2] 40)) w') :
    w'.cell? ⟨w.heap.size, 0, none⟩ = some (.int .i64 v0) ∧ w'.cell? ⟨w.heap.size, 1, none⟩ = some (.int .i64 v1) ∧ w'.cell? ⟨w.heap.size, 2, none⟩ = some (.int .i64 v2) := by
  have hh : w'.heap[w.heap.size]? = some (.cells #[.int .i64 v0, .int .i64 v1, .int .i64 v2] 40) := by
    rw [h.block w.heap.size (by rw [alloc_size]; omega)]
    exact heap_at w _ _ rfl
  refine ⟨?_, ?_, ?_⟩ <;> simp [World.cell?, hh]

theorem below_first {w w' : World} {o : Obj} (h : Below (w.alloc o).heap.size (w.alloc o) w') : Below w.heap.size w w' :=
  ((Below.refl _ _).alloc (Nat.le_refl _) o).trans (h.mono (by rw [alloc_size]; omega))

set_option maxHeartbeats 4000000 in
set_option maxRecDepth 100000 in
theorem walk7 (m im ex pl gl os : ByteArray) (h : Bool) (v0 v1 v2 bits : Int) (w : World) (hE : Env w) :
    Calls Tryd.prog 7 #[.string m, .bool h, .string im, .agg #[.int .i64 v0, .int .i64 v1, .int .i64 v2], .string ex, .string pl, .int .i64 bits, .string gl, .string os] w fun e w' => e = .returned (.bool true) ∧ Below w.heap.size w w' := by
  have HE : Hid (Env w) := hE
  clear hE
  go_enter Tryd.func7, Tryd.ntmps7
  go_wp2_with fail
  go_at_call 23
  refine (bytes23 m im ex pl gl os h v0 v1 v2 bits _).mono ?_
  rintro e w1 ⟨⟨b, rfl⟩, hb1⟩
  have HB1 : Hid (Below (w.alloc (.cells #[.int .i64 v0, .int .i64 v1, .int .i64 v2] 40)).heap.size (w.alloc (.cells #[.int .i64 v0, .int .i64 v1, .int .i64 v2] 40)) w1) := hb1
  clear hb1
  cases b with
  | false =>
    go_wp2
    go_ret
    exact ⟨rfl, below_first HB1.out⟩
  | true =>
    by_cases h1 : 131072 < m.size
    · go_wp2
      go_ret
      exact ⟨rfl, below_first HB1.out⟩
    by_cases h2 : 131072 < im.size
    · go_wp2
      go_ret
      exact ⟨rfl, below_first HB1.out⟩
    by_cases h3 : 131072 < ex.size
    · go_wp2
      go_ret
      exact ⟨rfl, below_first HB1.out⟩
    by_cases h4 : 131072 < pl.size
    · go_wp2
      go_ret
      exact ⟨rfl, below_first HB1.out⟩
    by_cases h5 : 131072 < gl.size
    · go_wp2
      go_ret
      exact ⟨rfl, below_first HB1.out⟩
    by_cases h6 : 131072 < os.size
    · go_wp2
      go_ret
      exact ⟨rfl, below_first HB1.out⟩
    go_wp2_with fail
    go_at_call 24
    refine (arch_any m h _).mono ?_
    rintro e w2 ⟨rfl, rfl⟩
    obtain ⟨a, hadef⟩ : ∃ a, arch m h = a := ⟨_, rfl⟩
    have ha : a.size ≤ 131072 := by
      rw [← hadef]
      unfold arch
      split
      · omega
      · exact Nat.zero_le _
    have HI : Hid (∀ w, Calls Tryd.prog 29 #[.string m, .bool h, .string im, .agg #[.int .i64 v0, .int .i64 v1, .int .i64 v2], .string ex, .string pl, .int .i64 bits, .string gl, .string os] w fun e w' =>
      ∃ mv, e = .returned (interp mv im ex pl gl os v0 v1 v2 bits) ∧ MapIs w' mv a ∧ Below w.heap.size w w') := fun w => by rw [← hadef]; exact interp_any m im ex pl gl os h v0 v1 v2 bits w
    rw [hadef]
    clear hadef
    go_wp2_with fail
    go_at_call 25
    refine (fits_any a os _ (by omega) (by omega)).mono ?_
    rintro e w3 ⟨rfl, hb3⟩
    have HB3 : Hid (Below (w.alloc (.cells #[.int .i64 v0, .int .i64 v1, .int .i64 v2] 40)).heap.size (w.alloc (.cells #[.int .i64 v0, .int .i64 v1, .int .i64 v2] 40)) w3) := HB1.out.trans (hb3.mono HB1.out.size)
    clear hb3
    cases hf : fits a os.data.toList with
    | false =>
      go_wp2
      go_ret
      exact ⟨rfl, below_first HB3.out⟩
    | true =>
      obtain ⟨M, hMd⟩ : ∃ x, Pl.pMaj os.data.toList = x := ⟨_, rfl⟩
      obtain ⟨mn, hmd⟩ : ∃ x, Pl.pMin os.data.toList = x := ⟨_, rfl⟩
      obtain ⟨ok, hokd⟩ : ∃ x, Pl.pOk os.data.toList = x := ⟨_, rfl⟩
      obtain ⟨th, hthd⟩ : ∃ x, Pl.pThrough os.data.toList = x := ⟨_, rfl⟩
      have rM := pMaj_range os.data.toList
      have rm := pMin_wide os.data.toList
      have HSM : Hid (ok = true → M = 10 → mn ≤ 1048577) := by
        intro k1 k2
        have := pMin_small os.data.toList (by rw [hokd]; exact k1) (by rw [hMd]; exact k2)
        rw [hmd] at this
        omega
      have HP : Hid (∀ e, ParseIs os.data.toList e → e = .returned (.tuple #[.int .i64 M, .bool ok, .int .i64 mn, .bool th])) := by
        intro e h
        rw [ParseIs, hMd, hmd, hokd, hthd] at h
        exact h
      have HTH : Hid (Pl.pThrough os.data.toList = true) := by
        show _ = _
        have h8 := hf
        unfold fits at h8
        simp only [Bool.and_eq_true] at h8
        exact h8.1
      have HLEN : Hid ((Pl.got a os.data.toList).length = Pl.count a M ok mn) := by
        show _ = _
        rw [got_length, hMd, hmd, hokd]
      have HGET : Hid (∀ i, i < Pl.count a M ok mn → ok = true ∧ (Pl.got a os.data.toList).getD i ByteArray.empty = Pl.want i a M mn) := by
        intro i hi
        cases ok with
        | false => simp [Pl.count] at hi
        | true =>
          refine ⟨rfl, ?_⟩
          have hg : Pl.got a os.data.toList = Pl.tags a M mn := by unfold Pl.got; rw [if_pos hokd, hMd, hmd]
          rw [hg]
          exact Pl.tags_get a M mn i hi
      have hcb : Pl.count a M ok mn ≤ 16777216 := by
        have h8 := hf
        unfold fits at h8
        simp only [Bool.and_eq_true, decide_eq_true_eq] at h8
        rw [hMd, hmd, hokd] at h8
        exact Nat.le_trans (Nat.le_mul_of_pos_right _ (by omega)) h8.2
      have HC : Hid (∀ w, Calls Tryd.prog 27 #[.string a, .int .i64 M, .bool ok, .int .i64 mn] w fun e w' => e = .returned (.int .i64 (Pl.count a M ok mn : Nat)) ∧ Below w.heap.size w w') := fun w => count_any a M mn ok w (by omega) (by omega)
      rw [hMd] at rM
      rw [hmd] at rm
      obtain ⟨rM0, rM1⟩ := rM
      clear hMd hmd hokd hthd hf rm
      obtain ⟨cnt, hcnt⟩ : ∃ c, Pl.count a M ok mn = c := ⟨_, rfl⟩
      have HCT : Hid (Pl.count a M ok mn = cnt) := hcnt
      rw [hcnt] at HLEN HGET hcb HC
      clear hcnt
      go_wp2_with fail
      go_at_call 26
      refine (parse_any os _ (by omega)).mono ?_
      rintro e w4 ⟨he, hb4⟩
      replace he := HP.out _ he
      subst he
      have HB4 : Hid (Below (w.alloc (.cells #[.int .i64 v0, .int .i64 v1, .int .i64 v2] 40)).heap.size (w.alloc (.cells #[.int .i64 v0, .int .i64 v1, .int .i64 v2] 40)) w4) := HB3.out.trans (hb4.mono HB3.out.size)
      clear hb4 HP
      go_wp2_with fail
      go_at_call 27
      refine (HC.out _).mono ?_
      rintro e w5 ⟨rfl, hb5⟩
      have HB5 : Hid (Below (w.alloc (.cells #[.int .i64 v0, .int .i64 v1, .int .i64 v2] 40)).heap.size (w.alloc (.cells #[.int .i64 v0, .int .i64 v1, .int .i64 v2] 40)) w5) := HB4.out.trans (hb5.mono HB4.out.size)
      clear hb5 HC
      obtain ⟨bx0, bx1, bx2⟩ := box_cells w v0 v1 v2 w5 HB5.out
      go_wp2_with fail
      go_at_call 29
      refine (HI.out _).mono ?_
      rintro e w6 ⟨mv, rfl, hmap, hb6⟩
      have HB6 : Hid (Below (w.alloc (.cells #[.int .i64 v0, .int .i64 v1, .int .i64 v2] 40)).heap.size (w.alloc (.cells #[.int .i64 v0, .int .i64 v1, .int .i64 v2] 40)) w6) := HB5.out.trans (hb6.mono HB5.out.size)
      have HMAP : Hid (MapIs w6 mv a) := hmap
      clear hb6 hmap HI bx0 bx1 bx2
      go_wp2_with fail
      go_at_call 28
      refine (zzmac_any mv a im ex pl gl os v0 v1 v2 bits _ HMAP.out (HE.out.keep (below_first HB6.out)) (by omega) (by omega) HTH.out).mono ?_
      rintro e w7 ⟨⟨v, rfl, hown, hnil⟩, hb7⟩
      have HB7 : Hid (Below w.heap.size w w7) := (below_first HB6.out).trans (hb7.mono (below_first HB6.out).size)
      have HOWN : Hid (w7.ownsRow w6.heap.size 9 1 v (Pl.got a os.data.toList).length ((Pl.got a os.data.toList).map Value.string)) := hown
      have HNIL : Hid (Pl.got a os.data.toList = [] → v = .slice none 0 0) := hnil
      clear hb7 hown hnil HMAP HTH HE
      have q : ∀ (w : World) (a : Option Addr) (n c n' c' : Nat), (binOp .eql 46 (.slice a n c) (.slice none n' c')).run Tryd.prog w = .ok (.bool a.isNone) w := fun w a n c n' c' => Lib.run_eql_slice_nil w _ _ a n c n' c' Tryd.underlying46
      by_cases hc0 : cnt = 0
      · have hv : v = .slice none 0 0 := HNIL.out (List.eq_nil_of_length_eq_zero (by rw [HLEN.out]; exact hc0))
        subst hv
        have hc0' : ((cnt : Int) == 0) = true := by rw [beq_iff_eq]; omega
        clear HOWN HNIL
        go_wp2
        go_ret
        exact ⟨rfl, HB7.out⟩
      · have hc0' : ((cnt : Int) == 0) = false := by rw [beq_eq_false_iff_ne]; omega
        obtain ⟨g, c, rfl, hR, _⟩ := own_row HOWN.out rfl (by rw [HLEN.out]; omega)
        have HR : Hid (RowAt w7 g (Pl.got a os.data.toList)) := hR
        rw [HLEN.out]
        clear HOWN HNIL hR q
        obtain ⟨k, hk⟩ : ∃ k, (Pl.fmts a).length = k := ⟨_, rfl⟩
        have HK : Hid ((Pl.fmts a).length = k) := hk
        clear hk
        go_wp2_with fail
        go_at_call 30
        refine (fmts_any a k HK.out _).mono ?_
        rintro e w8 ⟨⟨N, rfl, hN, hrow⟩, hb8⟩
        have HB8 : Hid (Below w.heap.size w w8) := HB7.out.trans (hb8.mono HB7.out.size)
        have HR8 : Hid (RowAt w8 g (Pl.got a os.data.toList)) := HR.out.keep hb8
        have HF8 : Hid (RowAt w8 N (Pl.fmts a)) := hrow
        clear hb8 hrow hN HR HB7
        go_wp2
        go_loopw [27] (fun i wr => ∃ q : Nat, q ≤ cnt ∧ i = .int .i64 q ∧ Hid (Below w.heap.size w wr) ∧ Hid (RowAt wr g (Pl.got a os.data.toList)) ∧ Hid (RowAt wr N (Pl.fmts a))) (fun i _ => cnt - (intOf i).toNat)
        case atStart => exact ⟨0, by omega, by go_num, HB8, HR8, HF8⟩
        case round =>
          obtain ⟨q, hq, rfl, HBr, HRr, HFr⟩ := hrel
          clear HB8 HR8 HF8
          by_cases hlt : q < cnt
          · obtain ⟨hok, hget⟩ := HGET.out q hlt
            have hcell : wr.cell? ⟨g, q, none⟩ = some (.string (Pl.want q a M mn)) := by
              rw [← hget]
              exact HRr.out.2 q (by rw [HLEN.out]; exact hlt)
            have HC : Hid (wr.cell? ⟨g, q, none⟩ = some (.string (Pl.want q a M mn))) := hcell
            have hgl : g < wr.heap.size := HRr.out.1
            have HI2 : Hid (q < Pl.count a M true mn) := by
              show _ < _
              rw [← hok, HCT.out]
              exact hlt
            have HMN : Hid (M = 10 → mn ≤ 1048577) := HSM.out hok
            have g1 : (0 : Int) ≤ (q : Int) := by omega
            have g2 : (q : Int) < (cnt : Int) := by omega
            clear hok hget
            go_wp2
            go_region_held3 (fun w' => w'.cell? ⟨g, q, none⟩ = some (.string (Pl.want q a M mn))) (first | exact hcell | exact (HB9.out.cell (p := ⟨g, q, none⟩) hgl).trans HC.out) ((go_at_call 31; (refine (want_any q N k a M mn _ HK.out HFr.out.drew (by omega) rM0 (by omega) HMN.out HI2.out).mono ?_); rintro e w9 ⟨rfl, hb9⟩; have HB9 : Hid (Below wr.heap.size wr w9) := below_drew hb9; clear hb9))
            have HBn : Hid (Below w.heap.size w w9) := HBr.out.trans (HB9.out.mono HBr.out.size)
            have HRn : Hid (RowAt w9 g (Pl.got a os.data.toList)) := HRr.out.keep HB9.out
            have HFn : Hid (RowAt w9 N (Pl.fmts a)) := HFr.out.keep HB9.out
            clear HBr HRr HFr HB9 HC
            go_wp2
            go_roundw
            case rel => exact ⟨q + 1, by omega, by go_num, HBn, HRn, HFn⟩
            case measure => simp [intOf]; omega
          · go_wp2
            go_ret
            exact ⟨rfl, HBr.out⟩
end Go.Proofs.Qxb6601124aDoor
