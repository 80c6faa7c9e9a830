/-
  THE WALK: zzAtoiSmall.
-/
import Derived.Test.Qxb6601124aDoorWalkA
namespace Go.Proofs.Qxb6601124aDoor
open Go.RowKit
set_option linter.unusedSimpArgs false
set_option linter.unusedVariables false

def st (l : List UInt8) : Nat := if Pl.sgn l = true then 1 else 0

theorem body_drop (l : List UInt8) : Pl.body l = l.drop (st l) := by
  unfold Pl.body st
  split <;> rfl

theorem run_end_nil (v : Nat) (b : Bool) (l : List UInt8) (k : Nat) (h : l.length ≤ k) : Pl.smallRun v b (l.drop k) = (v, b, []) := by
  rw [List.drop_eq_nil_of_le h]; rfl

theorem drop_cons (s : ByteArray) (k : Nat) (h : k < s.size) : s.data.toList.drop k = s[k] :: s.data.toList.drop (k + 1) := by
  have hl : k < s.data.toList.length := by rw [by_len]; exact h
  rw [List.drop_eq_getElem_cons hl]
  congr 1

theorem run_digit_big (v : Nat) (c : UInt8) (r : List UInt8) (h : Pl.digit c = true) : Pl.smallRun v true (c :: r) = Pl.smallRun v true r := by
  simp only [Pl.smallRun]; rw [if_pos h, if_pos trivial]
theorem run_digit (v : Nat) (c : UInt8) (r : List UInt8) (h : Pl.digit c = true) : Pl.smallRun v false (c :: r) = Pl.smallRun (v * 10 + (c.toNat - 48)) (decide (1048576 < v * 10 + (c.toNat - 48))) r := by
  simp only [Pl.smallRun]; rw [if_pos h, if_neg (by decide)]
theorem run_stop (v : Nat) (b : Bool) (c : UInt8) (r : List UInt8) (h : Pl.digit c = false) : Pl.smallRun v b (c :: r) = (v, b, c :: r) := by
  simp only [Pl.smallRun]; rw [if_neg (by rw [h]; decide)]

theorem ok_test (a k n : Nat) (h : a < k) : ((k : Int) == (n : Int)) = (decide (a < k) && decide (k = n)) := by
  rw [decide_eq_true h, Bool.true_and, Bool.eq_iff_iff, beq_iff_eq, decide_eq_true_iff]
  omega

def SmallIs (l : List UInt8) (e : Ending) : Prop := e = .returned (.tuple #[.int .i64 (Pl.sVal l), .bool (Pl.sOk l), .bool (Pl.sBig l)])

theorem small_ends (s : ByteArray) (k v : Nat) (b : Bool) (rest : List UInt8) (hk : k ≤ s.size) (hst : st s.data.toList ≤ k) (hr : rest = s.data.toList.drop k) (h : Pl.smallRun 0 false (Pl.body s.data.toList) = (v, b, rest)) (x : Int) (ok : Bool)
    (hx : x = if Pl.neg s.data.toList = true then -(v : Int) else v) (ho : ok = (decide (st s.data.toList < k) && decide (k = s.size))) :
    SmallIs s.data.toList (.returned (.tuple #[.int .i64 x, .bool ok, .bool b])) := by
  have h1 : Pl.sVal s.data.toList = x := by unfold Pl.sVal; rw [h, hx]
  have h2 : Pl.sBig s.data.toList = b := by unfold Pl.sBig; rw [h]
  have h3 : Pl.sOk s.data.toList = ok := by
    unfold Pl.sOk
    rw [h, ho, body_drop]
    have e1 : decide (rest = []) = decide (k = s.size) := by
      rw [Bool.eq_iff_iff, decide_eq_true_iff, decide_eq_true_iff, hr, List.drop_eq_nil_iff, by_len]
      omega
    show (decide (rest = []) && _) = _
    rw [e1]
    by_cases hks : k = s.size
    · have e2 : decide (s.data.toList.drop (st s.data.toList) ≠ []) = decide (st s.data.toList < k) := by
        rw [Bool.eq_iff_iff, decide_eq_true_iff, decide_eq_true_iff, Ne, List.drop_eq_nil_iff, by_len]
        omega
      rw [e2, Bool.and_comm]
    · simp [hks]
  unfold SmallIs
  rw [h1, h2, h3]

set_option maxHeartbeats 2000000 in
set_option maxRecDepth 100000 in
theorem small_any (s : ByteArray) (w : World) (hs : s.size ≤ 1048576) :
    Calls Tryd.prog 41 #[.string s] w fun e w' => SmallIs s.data.toList e ∧ w' = w := by
  have key : (s.size = 0 ∧ st s.data.toList = 0 ∧ Pl.neg s.data.toList = false) ∨ (∃ h : 0 < s.size, ((((s[0]'h).toNat : Int) == 43) = true ∧ (((s[0]'h).toNat : Int) == 45) = false ∧ st s.data.toList = 1 ∧ Pl.neg s.data.toList = false) ∨
      ((((s[0]'h).toNat : Int) == 43) = false ∧ (((s[0]'h).toNat : Int) == 45) = true ∧ st s.data.toList = 1 ∧ Pl.neg s.data.toList = true) ∨
      ((((s[0]'h).toNat : Int) == 43) = false ∧ (((s[0]'h).toNat : Int) == 45) = false ∧ st s.data.toList = 0 ∧ Pl.neg s.data.toList = false)) := by
    by_cases h0 : 0 < s.size
    · right
      refine ⟨h0, ?_⟩
      have e := drop_cons s 0 h0
      rw [List.drop_zero] at e
      generalize s.data.toList.drop (0 + 1) = r at e
      generalize s[0]'h0 = c at e ⊢
      rw [e]
      unfold st Pl.sgn Pl.neg
      by_cases h43 : c = 43
      · subst h43; left; exact ⟨by decide, by decide, rfl, rfl⟩
      · by_cases h45 : c = 45
        · subst h45; right; left; exact ⟨by decide, by decide, rfl, rfl⟩
        · right; right
          have n43 : c.toNat ≠ 43 := fun e => h43 (UInt8.toNat_inj.1 e)
          have n45 : c.toNat ≠ 45 := fun e => h45 (UInt8.toNat_inj.1 e)
          refine ⟨by rw [beq_eq_false_iff_ne]; omega, by rw [beq_eq_false_iff_ne]; omega, by simp [h43, h45], by simp [h45]⟩
    · left
      have hz : s.size = 0 := by omega
      have : s.data.toList = [] := List.eq_nil_of_length_eq_zero (by rw [by_len]; exact hz)
      rw [this]
      exact ⟨hz, rfl, rfl⟩
  have HS : Hid (s.size ≤ 1048576) := hs
  rcases key with ⟨hz, hst, hng⟩ | ⟨h0, key⟩
  · have HST := show Hid _ from hst
    have HNG := show Hid _ from hng
    clear hst hng
    go_enter Tryd.func41, Tryd.ntmps41
    go_wp2
    go_loop [5, 8, 9] (fun i v b => ∃ k n : Nat, ∃ g : Bool, k ≤ s.size ∧ i = .int .i64 k ∧ v = .int .i64 n ∧ b = .bool g ∧ n ≤ 10485769 ∧ (g = false → n ≤ 1048576) ∧ Hid (st s.data.toList ≤ k) ∧ Hid (Pl.smallRun 0 false (Pl.body s.data.toList) = Pl.smallRun n g (s.data.toList.drop k))) (fun i v b => s.size - (intOf i).toNat)
    case atStart => exact ⟨0, 0, false, by omega, by go_num, by go_num, rfl, by omega, fun _ => by omega, by rw [HST.out]; exact Nat.le_refl _, by rw [body_drop, HST.out]; exact rfl⟩
    case round =>
      obtain ⟨k, n, g, hk, rfl, rfl, rfl, hn, hng, HSK, HRUN⟩ := hrel
      have HE : Hid (Pl.smallRun 0 false (Pl.body s.data.toList) = (n, g, s.data.toList.drop k)) := by
        show _ = _
        rw [HRUN.out, run_end_nil _ _ _ _ (by rw [by_len]; omega), List.drop_eq_nil_of_le (by rw [by_len]; omega)]
      clear HRUN
      by_cases hgt : st s.data.toList < k
      · rw [HST.out] at hgt
        exfalso; omega
      · rw [HST.out] at hgt
        go_wp2
        go_ret3
        refine ⟨small_ends s k n g _ hk HSK.out rfl HE.out _ _ ?_ ?_, rfl⟩
        · rw [HNG.out]; first | rfl | simp | (simp; omega)
        · rw [HST.out]; first | rfl | (simp; omega) | (simp [hgt]; omega) | (exact ok_test _ _ _ hgt)
  rcases key with ⟨h43, h45, hst, hng⟩ | ⟨h43, h45, hst, hng⟩ | ⟨h43, h45, hst, hng⟩
  all_goals
    have HST := show Hid _ from hst
    have HNG := show Hid _ from hng
    clear hst hng
    go_enter Tryd.func41, Tryd.ntmps41
    go_wp2
    go_loop [5, 8, 9] (fun i v b => ∃ k n : Nat, ∃ g : Bool, k ≤ s.size ∧ i = .int .i64 k ∧ v = .int .i64 n ∧ b = .bool g ∧ n ≤ 10485769 ∧ (g = false → n ≤ 1048576) ∧ Hid (st s.data.toList ≤ k) ∧ Hid (Pl.smallRun 0 false (Pl.body s.data.toList) = Pl.smallRun n g (s.data.toList.drop k))) (fun i v b => s.size - (intOf i).toNat)
  case atStart => exact ⟨1, 0, false, by omega, by go_num, by go_num, rfl, by omega, fun _ => by omega, by rw [HST.out]; exact Nat.le_refl _, by rw [body_drop, HST.out]; exact rfl⟩
  case atStart => exact ⟨1, 0, false, by omega, by go_num, by go_num, rfl, by omega, fun _ => by omega, by rw [HST.out]; exact Nat.le_refl _, by rw [body_drop, HST.out]; exact rfl⟩
  case atStart => exact ⟨0, 0, false, by omega, by go_num, by go_num, rfl, by omega, fun _ => by omega, by rw [HST.out]; exact Nat.le_refl _, by rw [body_drop, HST.out]; exact rfl⟩
  all_goals
    obtain ⟨k, n, g, hk, rfl, rfl, rfl, hn, hng, HSK, HRUN⟩ := hrel
    by_cases hlt : k < s.size
    · by_cases hd1 : (48 : Int) ≤ (s[k].toNat : Int)
      · by_cases hd2 : (s[k].toNat : Int) ≤ 57
        · have HD : Hid (Pl.digit s[k] = true) := by
            show _ = _
            unfold Pl.digit
            rw [decide_eq_true (by omega), decide_eq_true (by omega)]; rfl
          cases g with
          | true =>
            go_wp2
            go_round
            case rel => exact ⟨k + 1, n, true, by omega, by go_num, rfl, rfl, hn, fun e => (by cases e), Nat.le_succ_of_le HSK.out, by
              rw [HRUN.out, drop_cons s k hlt, run_digit_big _ _ _ HD.out]; exact rfl⟩
            case measure => simp [intOf]; omega
          | false =>
            have hn1 : n ≤ 1048576 := hng rfl
            by_cases hv : (n : Int) * 10 + ((s[k].toNat : Int) - 48) > 1048576
            · go_wp2
              go_round
              case rel => exact ⟨k + 1, n * 10 + (s[k].toNat - 48), true, by omega, by go_num, by go_num, rfl, by omega, fun e => (by cases e), Nat.le_succ_of_le HSK.out, by
                rw [HRUN.out, drop_cons s k hlt, run_digit _ _ _ HD.out, decide_eq_true (by omega)]; exact rfl⟩
              case measure => simp [intOf]; omega
            · go_wp2
              go_round
              case rel => exact ⟨k + 1, n * 10 + (s[k].toNat - 48), false, by omega, by go_num, by go_num, rfl, by omega, fun e => (by omega), Nat.le_succ_of_le HSK.out, by
                rw [HRUN.out, drop_cons s k hlt, run_digit _ _ _ HD.out, decide_eq_false (by omega)]; exact rfl⟩
              case measure => simp [intOf]; omega
        · have HN : Hid (Pl.digit s[k] = false) := by
            show _ = _
            unfold Pl.digit
            rw [decide_eq_false (show ¬ s[k].toNat ≤ 57 by omega), Bool.and_false]
          have HE : Hid (Pl.smallRun 0 false (Pl.body s.data.toList) = (n, g, s.data.toList.drop k)) := by
            show _ = _
            rw [HRUN.out, drop_cons s k hlt, run_stop _ _ _ _ HN.out]
          clear HRUN
          by_cases hgt : st s.data.toList < k
          · rw [HST.out] at hgt
            go_wp2
            go_ret3
            refine ⟨small_ends s k n g _ hk HSK.out rfl HE.out _ _ ?_ ?_, rfl⟩
            · rw [HNG.out]; first | rfl | simp | (simp; omega)
            · rw [HST.out]; first | rfl | (simp; omega) | (simp [hgt]; omega) | (exact ok_test _ _ _ hgt)
          · rw [HST.out] at hgt
            go_wp2
            go_ret3
            refine ⟨small_ends s k n g _ hk HSK.out rfl HE.out _ _ ?_ ?_, rfl⟩
            · rw [HNG.out]; first | rfl | simp | (simp; omega)
            · rw [HST.out]; first | rfl | (simp; omega) | (simp [hgt]; omega) | (exact ok_test _ _ _ hgt)
      · have HN : Hid (Pl.digit s[k] = false) := by
          show _ = _
          unfold Pl.digit
          rw [decide_eq_false (show ¬ 48 ≤ s[k].toNat by omega), Bool.false_and]
        have HE : Hid (Pl.smallRun 0 false (Pl.body s.data.toList) = (n, g, s.data.toList.drop k)) := by
          show _ = _
          rw [HRUN.out, drop_cons s k hlt, run_stop _ _ _ _ HN.out]
        clear HRUN
        by_cases hgt : st s.data.toList < k
        · rw [HST.out] at hgt
          go_wp2
          go_ret3
          refine ⟨small_ends s k n g _ hk HSK.out rfl HE.out _ _ ?_ ?_, rfl⟩
          · rw [HNG.out]; first | rfl | simp | (simp; omega)
          · rw [HST.out]; first | rfl | (simp; omega) | (simp [hgt]; omega) | (exact ok_test _ _ _ hgt)
        · rw [HST.out] at hgt
          go_wp2
          go_ret3
          refine ⟨small_ends s k n g _ hk HSK.out rfl HE.out _ _ ?_ ?_, rfl⟩
          · rw [HNG.out]; first | rfl | simp | (simp; omega)
          · rw [HST.out]; first | rfl | (simp; omega) | (simp [hgt]; omega) | (exact ok_test _ _ _ hgt)
    ·
      have HE : Hid (Pl.smallRun 0 false (Pl.body s.data.toList) = (n, g, s.data.toList.drop k)) := by
        show _ = _
        rw [HRUN.out, run_end_nil _ _ _ _ (by rw [by_len]; omega), List.drop_eq_nil_of_le (by rw [by_len]; omega)]
      clear HRUN
      by_cases hgt : st s.data.toList < k
      · rw [HST.out] at hgt
        go_wp2
        go_ret3
        refine ⟨small_ends s k n g _ hk HSK.out rfl HE.out _ _ ?_ ?_, rfl⟩
        · rw [HNG.out]; first | rfl | simp | (simp; omega)
        · rw [HST.out]; first | rfl | (simp; omega) | (simp [hgt]; omega) | (exact ok_test _ _ _ hgt)
      · rw [HST.out] at hgt
        go_wp2
        go_ret3
        refine ⟨small_ends s k n g _ hk HSK.out rfl HE.out _ _ ?_ ?_, rfl⟩
        · rw [HNG.out]; first | rfl | simp | (simp; omega)
        · rw [HST.out]; first | rfl | (simp; omega) | (simp [hgt]; omega) | (exact ok_test _ _ _ hgt)
end Go.Proofs.Qxb6601124aDoor
