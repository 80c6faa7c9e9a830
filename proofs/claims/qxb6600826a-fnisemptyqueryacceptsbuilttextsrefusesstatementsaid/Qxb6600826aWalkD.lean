/-
  THE WALKS: isEmptyQuery.
-/
import Derived.Test.Qxb6600826aWalkC
namespace Go.Proofs.Qxb6600826a
open Go.RowKit
set_option linter.unusedSimpArgs false
set_option linter.unusedVariables false

theorem space_idx (x : UInt8) : decide (0 ≤ Lib.indexByte [32, 9, 10, 13, 12, 11] x) = Pl.space (x.toNat : Int) := by
  rw [← Lib.contains_iff_indexByte]
  rw [Bool.eq_iff_iff]
  simp [Pl.space, ← UInt8.toNat_inj]
  omega

theorem idx_space (x : UInt8) (w : World) : Calls Try.prog 32 #[.string { data := #[32, 9, 10, 13, 12, 11] }, .int .u8 (x.toNat : Int)] w fun e w' =>
    (∃ v : Int, e = .returned (.int .i64 v) ∧ decide (0 ≤ v) = Pl.space (x.toNat : Int)) ∧ w' = w := by
  refine (Try.strings_IndexByte _ _ _).mono ?_
  rintro e w' ⟨rfl, rfl⟩
  refine ⟨⟨_, rfl, ?_⟩, rfl⟩
  have hback : ((x.toNat : Int)).toNat.toUInt8 = x := by simp
  rw [hback]
  exact space_idx x

/-! ### the steps of isE -/
theorem take2_iff (c : Int) (r : List Int) (a b : Int) : (c :: r).take 2 = [a, b] ↔ c = a ∧ r.head? = some b := by
  cases r with
  | nil => simp
  | cons x t => simp

theorem isE_sp (d : List Int) (k : Nat) (h : k < d.length) (hs : Pl.space (d.getD k 0) = true) : Pl.isE (d.drop k) = Pl.isE (d.drop (k + 1)) := by
  have e : d.drop k = d.getD k 0 :: d.drop (k + 1) := by rw [List.drop_eq_getElem_cons h]; simp [List.getD_eq_getElem?_getD, h]
  rw [e, Pl.isE_space _ _ hs]

theorem isE_dash (d : List Int) (k : Nat) (h : k < d.length) (hs : Pl.space (d.getD k 0) = false) (ht : (d.drop k).take 2 = [45, 45]) :
    Pl.isE (d.drop k) = match Pl.nl (d.drop k) with | none => true | some e => Pl.isE (d.drop (k + (e + 1))) := by
  have e : d.drop k = d.getD k 0 :: d.drop (k + 1) := by rw [List.drop_eq_getElem_cons h]; simp [List.getD_eq_getElem?_getD, h]
  rw [e] at ht
  have h2 := (take2_iff _ _ _ _).1 ht
  have h3 : ∀ e, d.drop (k + (e + 1)) = (d.drop k).drop (e + 1) := fun e => by rw [List.drop_drop]
  simp only [h3]
  rw [e, Pl.isE_cons, hs, if_neg (by decide), if_pos h2]
  cases Pl.nl (d.getD k 0 :: d.drop (k + 1)) <;> rfl

theorem isE_slash (d : List Int) (k : Nat) (h : k < d.length) (hs : Pl.space (d.getD k 0) = false) (ht : (d.drop k).take 2 = [47, 42]) :
    Pl.isE (d.drop k) = match Pl.bc 0 (d.drop k) with | none => false | some e => Pl.isE (d.drop (k + e)) := by
  have e : d.drop k = d.getD k 0 :: d.drop (k + 1) := by rw [List.drop_eq_getElem_cons h]; simp [List.getD_eq_getElem?_getD, h]
  rw [e] at ht
  have h2 := (take2_iff _ _ _ _).1 ht
  have h3 : ∀ e, d.drop (k + e) = (d.drop k).drop e := fun e => by rw [List.drop_drop]
  simp only [h3]
  rw [e, Pl.isE_cons, hs, if_neg (by decide), if_neg (by rw [h2.1]; rintro ⟨h, _⟩; revert h; decide), if_pos h2]
  cases Pl.bc 0 (d.getD k 0 :: d.drop (k + 1)) <;> rfl

theorem isE_no (d : List Int) (k : Nat) (h : k < d.length) (hs : Pl.space (d.getD k 0) = false) (h1 : ¬ (d.drop k).take 2 = [45, 45]) (h2 : ¬ (d.drop k).take 2 = [47, 42]) : Pl.isE (d.drop k) = false := by
  have e : d.drop k = d.getD k 0 :: d.drop (k + 1) := by rw [List.drop_eq_getElem_cons h]; simp [List.getD_eq_getElem?_getD, h]
  rw [e] at h1 h2
  rw [e, Pl.isE_cons, hs, if_neg (by decide), if_neg (fun x => h1 ((take2_iff _ _ _ _).2 x)), if_neg (fun x => h2 ((take2_iff _ _ _ _).2 x))]

set_option maxRecDepth 100000 in
set_option maxHeartbeats 2000000 in
theorem isEmpty_any (s : ByteArray) (w : World) (hs : s.size ≤ 1073741824) :
    Calls Try.prog 27 #[.string s] w fun e w' => e = .returned (.bool (Pl.isE (bs s))) ∧ Below w.heap.size w w' := by
  obtain ⟨R, hR⟩ : ∃ R, R = Pl.isE (bs s) := ⟨_, rfl⟩
  rw [← hR]
  have HR : Hid (R = Pl.isE ((bs s).drop 0)) := by
    show _ = _
    rw [hR]; simp
  clear hR
  go_enter Try.func27, Try.ntmps27
  go_wp2
  go_loopw [3] (fun i wr => ∃ k : Nat, k ≤ s.size ∧ i = .int .i64 k ∧ Hid (R = Pl.isE ((bs s).drop k)) ∧ Hid (Below w.heap.size w wr)) (fun i _ => s.size - (intOf i).toNat)
  case atStart => exact ⟨0, by omega, by go_num, HR, Below.refl _ _⟩
  case round =>
    obtain ⟨k, hk, rfl, HK, HB⟩ := hrel
    by_cases hlt : k < s.size
    · have hl : k < (bs s).length := by rw [bs_length]; exact hlt
      have HG : Hid ((bs s).getD k 0 = (s[k].toNat : Int)) := bs_get s k hlt
      have hrs : (s.extract k s.size).size = s.size - k := by rw [← bs_length, bs_rest, List.length_drop, bs_length]
      have HBR : Hid (bs (s.extract k s.size) = (bs s).drop k) := bs_rest s k
      have hbel : w.heap.size ≤ wr.heap.size := HB.out.size
      cases hsp : Pl.space (s[k].toNat : Int)
      · have hsp' : Pl.space ((bs s).getD k 0) = false := by rw [HG.out]; exact hsp
        by_cases hd : ((bs s).drop k).take 2 = [45, 45]
        · have HD := show Hid _ from isE_dash (bs s) k hl hsp' hd
          have hb1 : decide ((bs (s.extract k s.size)).take 2 = [((45 : UInt8).toNat : Int), ((45 : UInt8).toNat : Int)]) = true := by rw [HBR.out]; exact decide_eq_true hd
          go_wp2_with fail
          refine (idx_space _ _).mono ?_
          rintro e w1 ⟨⟨v, rfl, hv⟩, rfl⟩
          rw [hsp] at hv
          have hv' : ¬ 0 ≤ v := of_decide_eq_false hv
          clear hv
          go_wp2_with fail
          refine (hasPrefix2 _ 45 45 _ (by omega)).mono ?_
          rintro e w2 ⟨rfl, rfl⟩
          rw [hb1]
          go_wp2_with fail
          refine (indexAny_any _ _ (by omega)).mono ?_
          rintro e w3 ⟨rfl, hb3⟩
          rw [HBR.out]
          have HB3 : Hid (Below w.heap.size w w3) := HB.out.trans (hb3.mono hbel)
          clear hb3
          cases hnl : Pl.nl ((bs s).drop k) with
          | none =>
            have HE : Hid (R = true) := by
              have h := HD.out
              rw [hnl] at h
              exact HK.out.trans h
            clear hnl
            go_wp2
            go_ret
            exact ⟨ret_bool (by rw [HE.out]), HB3.out⟩
          | some e =>
            have hel := Pl.nl_lt _ _ hnl
            rw [List.length_drop, bs_length] at hel
            have HE : Hid (R = Pl.isE ((bs s).drop (k + (e + 1)))) := by
              have h := HD.out
              rw [hnl] at h
              exact HK.out.trans h
            clear hnl
            go_wp2
            go_roundw
            case rel => exact ⟨k + (e + 1), by omega, by go_num, HE, HB3⟩
            case measure => simp [intOf]; omega
        · have hb1 : decide ((bs (s.extract k s.size)).take 2 = [((45 : UInt8).toNat : Int), ((45 : UInt8).toNat : Int)]) = false := by rw [HBR.out]; exact decide_eq_false hd
          by_cases hc : ((bs s).drop k).take 2 = [47, 42]
          · have HD := show Hid _ from isE_slash (bs s) k hl hsp' hc
            have hb2 : decide ((bs (s.extract k s.size)).take 2 = [((47 : UInt8).toNat : Int), ((42 : UInt8).toNat : Int)]) = true := by rw [HBR.out]; exact decide_eq_true hc
            go_wp2_with fail
            refine (idx_space _ _).mono ?_
            rintro e w1 ⟨⟨v, rfl, hv⟩, rfl⟩
            rw [hsp] at hv
            have hv' : ¬ 0 ≤ v := of_decide_eq_false hv
            clear hv
            go_wp2_with fail
            refine (hasPrefix2 _ 45 45 _ (by omega)).mono ?_
            rintro e w2 ⟨rfl, rfl⟩
            rw [hb1]
            go_wp2_with fail
            refine (hasPrefix2 _ 47 42 _ (by omega)).mono ?_
            rintro e w3 ⟨rfl, rfl⟩
            rw [hb2]
            go_wp2_with fail
            refine (bce_any _ _ (by omega)).mono ?_
            rintro e w4 ⟨rfl, rfl⟩
            rw [HBR.out]
            cases hbc : Pl.bc 0 ((bs s).drop k) with
            | none =>
              have HE : Hid (R = false) := by
                have h := HD.out
                rw [hbc] at h
                exact HK.out.trans h
              clear hbc
              simp only [bcv]
              go_wp2
              go_ret
              exact ⟨ret_bool (by rw [HE.out]), HB.out⟩
            | some e =>
              have hel := Pl.bc_le _ _ _ hbc
              rw [List.length_drop, bs_length] at hel
              have HE : Hid (R = Pl.isE ((bs s).drop (k + e))) := by
                have h := HD.out
                rw [hbc] at h
                exact HK.out.trans h
              clear hbc
              simp only [bcv]
              go_wp2
              go_roundw
              case rel => exact ⟨k + e, by omega, by go_num, HE, HB⟩
              case measure => simp [intOf]; omega
          · have HE : Hid (R = false) := HK.out.trans (isE_no (bs s) k hl hsp' hd hc)
            have hb2 : decide ((bs (s.extract k s.size)).take 2 = [((47 : UInt8).toNat : Int), ((42 : UInt8).toNat : Int)]) = false := by rw [HBR.out]; exact decide_eq_false hc
            go_wp2_with fail
            refine (idx_space _ _).mono ?_
            rintro e w1 ⟨⟨v, rfl, hv⟩, rfl⟩
            rw [hsp] at hv
            have hv' : ¬ 0 ≤ v := of_decide_eq_false hv
            clear hv
            go_wp2_with fail
            refine (hasPrefix2 _ 45 45 _ (by omega)).mono ?_
            rintro e w2 ⟨rfl, rfl⟩
            rw [hb1]
            go_wp2_with fail
            refine (hasPrefix2 _ 47 42 _ (by omega)).mono ?_
            rintro e w3 ⟨rfl, rfl⟩
            rw [hb2]
            go_wp2
            go_ret
            exact ⟨ret_bool (by rw [HE.out]), HB.out⟩
      · have HE : Hid (R = Pl.isE ((bs s).drop (k + 1))) := HK.out.trans (isE_sp (bs s) k hl (by rw [HG.out]; exact hsp))
        go_wp2_with fail
        refine (idx_space _ _).mono ?_
        rintro e w1 ⟨⟨v, rfl, hv⟩, rfl⟩
        rw [hsp] at hv
        have hv' : 0 ≤ v := of_decide_eq_true hv
        clear hv
        go_wp2
        go_roundw
        case rel => exact ⟨k + 1, by omega, by go_num, HE, HB⟩
        case measure => simp [intOf]; omega
    · have HE : Hid (R = true) := by
        have h := HK.out
        rw [List.drop_of_length_le (by rw [bs_length]; omega)] at h
        exact h
      go_wp2
      go_ret
      exact ⟨ret_bool (by rw [HE.out]), HB.out⟩

theorem zzIs_any (s : ByteArray) (w : World) (hs : s.size ≤ 1073741824) :
    Calls Try.prog 13 #[.string s] w fun e w' => e = .returned (.bool (Pl.isE (bs s))) ∧ Below w.heap.size w w' := by
  go_enter Try.func13, Try.ntmps13
  go_wp2_with fail
  refine (isEmpty_any s _ hs).mono ?_
  rintro e w' ⟨rfl, hb⟩
  have HB := show Hid _ from hb
  clear hb
  go_wp2
  go_ret
  exact ⟨rfl, HB.out⟩
end Go.Proofs.Qxb6600826a
