/-
  THE WALKS: bytes.IndexByte, stringEnd.
-/
import Derived.Test.Qxb6600288aProg
import Derived.Test.Qxb6600288aPlain
import Derived.WalkKit
import Derived.WalkSpells
import Derived.WalkLawsBesides
import Derived.Lib.BytesEntry
namespace Go.Proofs.Qxb6600288a
open Go.RowKit
set_option linter.unusedSimpArgs false
set_option linter.unusedVariables false

set_option maxHeartbeats 400000 in
/-- bytes.IndexByte at a slice whose cells are known. -/
theorem indexByte_any (b off n c : Nat) (xs : List Int) (cv : Int) (w : World) (hx : xs.length = n) (hc : ∀ i, i < n → w.cell? ⟨b, off + i, none⟩ = some (.int .u8 (xs.getD i 0))) :
    Calls Try.prog 15 #[.slice (some ⟨b, off, none⟩) n c, .int .u8 cv] w fun e w' => e = .returned (.int .i64 (Lib.indexByte (Lib.bytesOf xs) cv.toNat.toUInt8)) ∧ w' = w := by
  have hrun : (callFunc 16 #[.slice (some ⟨b, off, none⟩) n c, .int .u8 cv]).run Try.prog w = .ok (.value (.int .i64 (Lib.indexByte (Lib.bytesOf xs) cv.toNat.toUInt8))) w := by
    rw [run_callFunc_extern Try.func16 (by kernel_rfl) (by kernel_rfl) (by kernel_rfl) (e := Extern.BytealgIndexByte.indexByte) (by kernel_rfl), Lib.run_indexByteSlice w b off n c xs hx hc cv]
    rfl
  clear hc
  go_enter Try.func15, Try.ntmps15
  go_wp2
  go_ret
  exact ⟨rfl, rfl⟩

theorem ret_int {k : IntKind} {a b : Int} (h : a = b) : Ending.returned (.int k a) = .returned (.int k b) := by rw [h]

theorem u8_eq (x : Int) (h0 : 0 ≤ x) (h1 : x ≤ 255) (c : Nat) (hc : c < 256) : (UInt8.ofNat x.toNat == UInt8.ofNat c) = decide (x = c) := by
  rw [Bool.eq_iff_iff, beq_iff_eq, decide_eq_true_iff]
  constructor
  · intro h
    have := congrArg UInt8.toNat h
    simp at this
    omega
  · intro h; subst h; simp

/-- What IndexByte's number says. -/
theorem index_cases (l : List Int) (c : Nat) (hc : c < 256) (hb : ∀ x ∈ l, 0 ≤ x ∧ x ≤ 255) :
    (Lib.indexByte (Lib.bytesOf l) (UInt8.ofNat c) = -1 ∧ ∀ x ∈ l, x ≠ (c : Int)) ∨
    ∃ q : Nat, Lib.indexByte (Lib.bytesOf l) (UInt8.ofNat c) = (q : Int) ∧ q < l.length ∧ l.getD q 0 = (c : Int) ∧ ∀ x ∈ l.take q, x ≠ (c : Int) := by
  induction l with
  | nil => left; exact ⟨rfl, by simp⟩
  | cons a r ih =>
    have ha := hb a (by simp)
    have hr : ∀ x ∈ r, 0 ≤ x ∧ x ≤ 255 := fun x hx => hb x (by simp [hx])
    have e : Lib.indexByte (Lib.bytesOf (a :: r)) (UInt8.ofNat c) = if (UInt8.ofNat a.toNat == UInt8.ofNat c) = true then 0 else if (Lib.indexByte (Lib.bytesOf r) (UInt8.ofNat c) == -1) = true then -1 else Lib.indexByte (Lib.bytesOf r) (UInt8.ofNat c) + 1 := rfl
    rw [e, u8_eq a ha.1 ha.2 c hc]
    by_cases h : a = (c : Int)
    · right; exact ⟨0, by simp [h], by simp, by simp [h], by simp⟩
    · rcases ih hr with ⟨h1, h2⟩ | ⟨q, h1, h2, h3, h4⟩
      · left
        refine ⟨by simp [h, h1], ?_⟩
        intro x hx
        rcases List.mem_cons.1 hx with rfl | hx
        · exact h
        · exact h2 x hx
      · right
        refine ⟨q + 1, ?_, by simp; omega, by simpa using h3, ?_⟩
        · rw [h1]; simp [h]
        · intro x hx
          rw [List.take_succ_cons] at hx
          rcases List.mem_cons.1 hx with rfl | hx
          · exact h
          · exact h4 x hx

set_option maxHeartbeats 400000 in
theorem stringEnd_any (g n cap i : Nat) (d : List Int) (w : World) (hn : d.length = n) (hlt : i < n) (hcap : n ≤ cap) (hN : cap ≤ 1099511627776) (hb : ∀ x ∈ d, 0 ≤ x ∧ x ≤ 255)
    (hc : ∀ j, j < n → w.cell? ⟨g, j, none⟩ = some (.int .u8 (d.getD j 0))) :
    Calls Try.prog 14 #[.slice (some ⟨g, 0, none⟩) n cap, .int .i64 i] w fun e w' => e = .returned (.int .i64 ((i + 1 + Pl.sLen false (d.drop (i + 1)) : Nat) : Int)) ∧ w' = w := by
  obtain ⟨R, hR⟩ : ∃ R, R = i + 1 + Pl.sLen false (d.drop (i + 1)) := ⟨_, rfl⟩
  rw [← hR]
  have HR : Hid (R = i + 1 + Pl.sLen false (d.drop (i + 1))) := hR
  have HC : Hid (∀ j, j < n → w.cell? ⟨g, j, none⟩ = some (.int .u8 (d.getD j 0))) := hc
  have HB : Hid (∀ x ∈ d, 0 ≤ x ∧ x ≤ 255) := hb
  clear hR hc hb
  go_enter Try.func14, Try.ntmps14
  go_wp2
  go_loop [1] (fun t => ∃ k : Nat, k ≤ n ∧ t = .int .i64 k ∧ Hid (R = k + Pl.sLen false (d.drop k))) (fun t => n - (intOf t).toNat)
  case atStart => exact ⟨i + 1, by omega, by go_num, HR⟩
  case round =>
    obtain ⟨k, hk, rfl, HK⟩ := hrel
    by_cases hkn : k < n
    · have hcc : ∀ i, i < n - k → w.cell? ⟨g, k + i, none⟩ = some (.int .u8 ((d.drop k).getD i 0)) := by
        intro i hi
        rw [HC.out (k + i) (by omega)]
        simp [List.getD_eq_getElem?_getD, List.getElem?_drop]
      have hbb : ∀ x ∈ d.drop k, 0 ≤ x ∧ x ≤ 255 := fun x hx => HB.out x (List.mem_of_mem_drop hx)
      have HCC : Hid (∀ i, i < n - k → w.cell? ⟨g, k + i, none⟩ = some (.int .u8 ((d.drop k).getD i 0))) := hcc
      clear hcc
      rcases index_cases (d.drop k) 34 (by omega) hbb with ⟨hi, hnone⟩ | ⟨q, hi, hq, hq34, hfree⟩
      · have HI := show Hid _ from hi
        have HE : Hid (R = n) := by
          show R = n
          rw [HK.out, Pl.sLen_none false _ hnone]; simp; omega
        clear hi hnone hbb
        go_wp2_with fail
        refine (indexByte_any g k (n - k) (cap - k) (d.drop k) 34 _ (by simp; omega) HCC.out).mono ?_
        rintro e w' ⟨rfl, rfl⟩
        have HI2 : Lib.indexByte (Lib.bytesOf (List.drop k d)) (34 : Int).toNat.toUInt8 = -1 := HI.out
        rw [HI2]
        clear HI2 HI HCC
        go_wp2
        go_ret
        exact ⟨ret_int (by rw [HE.out]), rfl⟩
      · have hql : q < n - k := by simp at hq; omega
        have HI := show Hid _ from hi
        have HF : Hid (∀ x ∈ (d.drop k).take q, x ≠ 34) := hfree
        have HQ : Hid ((d.drop k).getD q 0 = 34) := hq34
        clear hi hbb hq hq34 hfree
        go_wp2_with fail
        refine (indexByte_any g k (n - k) (cap - k) (d.drop k) 34 _ (by simp; omega) HCC.out).mono ?_
        rintro e w' ⟨rfl, rfl⟩
        have HI2 : Lib.indexByte (Lib.bytesOf (List.drop k d)) (34 : Int).toNat.toUInt8 = (q : Int) := HI.out
        rw [HI2]
        clear HI2 HI HCC
        go_wp2
        go_loop [6] (fun t => ∃ m : Nat, m ≤ q ∧ t = .int .i64 m ∧ Hid (∀ j, j < m → (d.drop k).getD (q - 1 - j) 0 = 92)) (fun t => q - (intOf t).toNat)
        case atStart => exact ⟨0, by omega, by go_num, fun j hj => by omega⟩
        case round =>
          obtain ⟨m, hm, rfl, HM⟩ := hrel
          by_cases hmq : m < q
          · obtain ⟨c, hcd⟩ : ∃ c, c = d.getD (k + q - 1 - m) 0 := ⟨_, rfl⟩
            have hcell : w'.cell? ⟨g, k + q - 1 - m, none⟩ = some (.int .u8 c) := by rw [HC.out _ (by omega), hcd]
            have HCD : Hid (c = (d.drop k).getD (q - 1 - m) 0) := by
              show _ = _
              rw [hcd]; simp only [List.getD_eq_getElem?_getD, List.getElem?_drop]
              rw [show k + (q - 1 - m) = k + q - 1 - m from by omega]
            clear hcd
            by_cases h92 : (c == 92) = true
            · go_wp2
              go_round
              case rel =>
                refine ⟨m + 1, by omega, by go_num, ?_⟩
                intro j hj
                by_cases hjm : j < m
                · exact HM.out j hjm
                · have : j = m := by omega
                  subst this
                  rw [← HCD.out]; exact beq_iff_eq.1 h92
              case measure => simp [intOf]; omega
            · have h92' : (c == 92) = false := by simpa using h92
              clear h92
              have HL := Pl.sLen_at (d.drop k) q m (by simp; omega) HQ.out HF.out (by omega) HM.out (.inr (by rw [← HCD.out]; exact beq_eq_false_iff_ne.1 h92'))
              have HL2 : Hid _ := HL
              clear HL
              rcases Nat.mod_two_eq_zero_or_one m with hp | hp
              · have hp' : ((m : Int) % 2 == 0) = true := by rw [beq_iff_eq]; omega
                have HE : Hid (R = k + q + 1) := by
                  show _ = _
                  rw [HK.out, HL2.out, if_neg (by omega)]; omega
                clear HL2 hp
                go_wp2
                go_ret
                exact ⟨ret_int (by rw [HE.out]; omega), rfl⟩
              · have hp' : ((m : Int) % 2 == 0) = false := by rw [beq_eq_false_iff_ne]; omega
                have HE : Hid (R = (k + q + 1) + Pl.sLen false (d.drop (k + q + 1))) := by
                  show _ = _
                  rw [HK.out, HL2.out, if_pos hp, List.drop_drop, ← Nat.add_assoc k q 1]; omega
                clear HL2 hp
                go_wp2
                go_round
                case rel => exact ⟨k + q + 1, by omega, by go_num, HE⟩
                case measure => simp [intOf]; omega
          · have HL := Pl.sLen_at (d.drop k) q m (by simp; omega) HQ.out HF.out (by omega) HM.out (.inl (by omega))
            have HL2 : Hid _ := HL
            clear HL
            rcases Nat.mod_two_eq_zero_or_one m with hp | hp
            · have hp' : ((m : Int) % 2 == 0) = true := by rw [beq_iff_eq]; omega
              have HE : Hid (R = k + q + 1) := by
                show _ = _
                rw [HK.out, HL2.out, if_neg (by omega)]; omega
              clear HL2 hp
              go_wp2
              go_ret
              exact ⟨ret_int (by rw [HE.out]; omega), rfl⟩
            · have hp' : ((m : Int) % 2 == 0) = false := by rw [beq_eq_false_iff_ne]; omega
              have HE : Hid (R = (k + q + 1) + Pl.sLen false (d.drop (k + q + 1))) := by
                show _ = _
                rw [HK.out, HL2.out, if_pos hp, List.drop_drop, ← Nat.add_assoc k q 1]; omega
              clear HL2 hp
              go_wp2
              go_round
              case rel => exact ⟨k + q + 1, by omega, by go_num, HE⟩
              case measure => simp [intOf]; omega
    · have HE : Hid (R = n) := by
        show R = n
        rw [HK.out, List.drop_of_length_le (by omega)]; simp [Pl.sLen]; omega
      go_wp2
      go_ret
      exact ⟨ret_int (by rw [HE.out]), rfl⟩
end Go.Proofs.Qxb6600288a
