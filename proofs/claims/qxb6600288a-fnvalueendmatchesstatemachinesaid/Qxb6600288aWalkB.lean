/-
  THE WALKS: valueEnd.
-/
import Derived.Test.Qxb6600288aWalkA
namespace Go.Proofs.Qxb6600288a
open Go.RowKit
set_option linter.unusedSimpArgs false
set_option linter.unusedVariables false

/-! ### what a byte does to the plain functions -/
theorem vEnd_str (d : List Int) (i : Nat) (h : i < d.length) (hc : d.getD i 0 = 34) : Pl.vEnd d i = i + 1 + Pl.sLen false (d.drop (i + 1)) := by
  unfold Pl.vEnd
  rw [Pl.drop_cons d i h, hc, Pl.vLen_opens _ _ (by decide)]
  simp only [Pl.mLen, if_true, Pl.mLen_zero_str]
  omega
theorem vEnd_open (d : List Int) (i : Nat) (h : i < d.length) (hc : d.getD i 0 = 123 ∨ d.getD i 0 = 91) : Pl.vEnd d i = i + Pl.mLen 0 false false (d.drop i) := by
  unfold Pl.vEnd
  rw [Pl.drop_cons d i h, Pl.vLen_opens _ _ (by rcases hc with hc | hc <;> rw [hc] <;> decide)]
theorem vEnd_scalar (d : List Int) (i : Nat) (h : i < d.length) (h1 : d.getD i 0 ≠ 34) (h2 : d.getD i 0 ≠ 123) (h3 : d.getD i 0 ≠ 91) : Pl.vEnd d i = i + Pl.tLen (d.drop i) := by
  unfold Pl.vEnd
  rw [Pl.drop_cons d i h, Pl.vLen_plain _ _ (by unfold Pl.opens; rw [decide_eq_false h1, decide_eq_false h2, decide_eq_false h3]; rfl)]
theorem tLen_yes (d : List Int) (k : Nat) (h : k < d.length) (hd : Pl.delim (d.getD k 0) = true) : Pl.tLen (d.drop k) = 0 := by
  rw [Pl.drop_cons d k h]; simp only [Pl.tLen, if_pos hd]
theorem tLen_no (d : List Int) (k : Nat) (h : k < d.length) (hd : Pl.delim (d.getD k 0) = false) : Pl.tLen (d.drop k) = 1 + Pl.tLen (d.drop (k + 1)) := by
  rw [Pl.drop_cons d k h]; simp only [Pl.tLen]; rw [if_neg (by rw [hd]; decide)]
/-- The machine's step outside a string. -/
theorem mLen_step (d : List Int) (k : Nat) (h : k < d.length) (dep : Int) : Pl.mLen dep false false (d.drop k) =
    if d.getD k 0 = 34 then 1 + Pl.mLen dep true false (d.drop (k + 1)) else if d.getD k 0 = 123 ∨ d.getD k 0 = 91 then 1 + Pl.mLen (dep + 1) false false (d.drop (k + 1)) else if d.getD k 0 = 125 ∨ d.getD k 0 = 93 then (if dep - 1 = 0 then 1 else 1 + Pl.mLen (dep - 1) false false (d.drop (k + 1))) else 1 + Pl.mLen dep false false (d.drop (k + 1)) := by
  rw [Pl.drop_cons d k h]; simp only [Pl.mLen]

set_option maxHeartbeats 400000 in
/-- the scalar's way -/
theorem valueEnd_scalar (g n cap i : Nat) (d : List Int) (w : World) (hn : d.length = n) (hlt : i < n) (hcap : n ≤ cap) (hN : cap ≤ 1099511627776)
    (hc : ∀ j, j < n → w.cell? ⟨g, j, none⟩ = some (.int .u8 (d.getD j 0))) (h1 : d.getD i 0 ≠ 34) (h2 : d.getD i 0 ≠ 123) (h3 : d.getD i 0 ≠ 91) :
    Calls Try.prog 13 #[.slice (some ⟨g, 0, none⟩) n cap, .int .i64 i] w fun e w' => e = .returned (.int .i64 (Pl.vEnd d i : Nat)) ∧ w' = w := by
  obtain ⟨R, hR⟩ : ∃ R, R = Pl.vEnd d i := ⟨_, rfl⟩
  rw [← hR]
  have HR : Hid (R = i + Pl.tLen (d.drop i)) := by
    show _ = _
    rw [hR, vEnd_scalar d i (by omega) h1 h2 h3]
  have HC : Hid (∀ j, j < n → w.cell? ⟨g, j, none⟩ = some (.int .u8 (d.getD j 0))) := hc
  obtain ⟨c, hcd⟩ : ∃ c, c = d.getD i 0 := ⟨_, rfl⟩
  have hcell : w.cell? ⟨g, i, none⟩ = some (.int .u8 c) := by rw [hc _ hlt, hcd]
  rw [← hcd] at h1 h2 h3
  have e1 : (c == 34) = false := beq_eq_false_iff_ne.2 h1
  have e2 : (c == 123) = false := beq_eq_false_iff_ne.2 h2
  have e3 : (c == 91) = false := beq_eq_false_iff_ne.2 h3
  have e4 : ((i : Int) == (n : Int)) = false := beq_eq_false_iff_ne.2 (by omega)
  clear hR hc hcd h1 h2 h3
  go_enter Try.func13, Try.ntmps13
  go_wp2
  go_loop [1] (fun t => ∃ k : Nat, k ≤ n ∧ t = .int .i64 k ∧ Hid (R = k + Pl.tLen (d.drop k))) (fun t => n - (intOf t).toNat)
  case atStart => exact ⟨i, by omega, by go_num, HR⟩
  case round =>
    obtain ⟨k, hk, rfl, HK⟩ := hrel
    clear hcell
    by_cases hkn : k < n
    · obtain ⟨c', hcd⟩ : ∃ c, c = d.getD k 0 := ⟨_, rfl⟩
      have hcell : w.cell? ⟨g, k, none⟩ = some (.int .u8 c') := by rw [HC.out _ hkn, hcd]
      have HY : Hid (Pl.delim c' = true → R = k) := by
        intro h
        rw [HK.out, tLen_yes d k (by omega) (by rw [← hcd]; exact h)]; rfl
      have HNo : Hid (Pl.delim c' = false → R = k + 1 + Pl.tLen (d.drop (k + 1))) := by
        intro h
        rw [HK.out, tLen_no d k (by omega) (by rw [← hcd]; exact h)]; omega
      clear hcd
      go_wp2
      all_goals first
        | (go_ret; exact ⟨ret_int (by rw [HY.out (by simp_all [Pl.delim])]), rfl⟩)
        | (go_round
           case rel => exact ⟨k + 1, by omega, by go_num, HNo.out (by simp_all [Pl.delim])⟩
           case measure => simp [intOf]; omega)
    · have HE : Hid (R = k) := by
        show R = k
        rw [HK.out, List.drop_of_length_le (by omega)]; simp [Pl.tLen]
      go_wp2
      go_ret
      exact ⟨ret_int (by rw [HE.out]), rfl⟩

set_option maxHeartbeats 400000 in
/-- the string's way -/
theorem valueEnd_string (g n cap i : Nat) (d : List Int) (w : World) (hn : d.length = n) (hlt : i < n) (hcap : n ≤ cap) (hN : cap ≤ 1099511627776) (hb : ∀ x ∈ d, 0 ≤ x ∧ x ≤ 255)
    (hc : ∀ j, j < n → w.cell? ⟨g, j, none⟩ = some (.int .u8 (d.getD j 0))) (h1 : d.getD i 0 = 34) :
    Calls Try.prog 13 #[.slice (some ⟨g, 0, none⟩) n cap, .int .i64 i] w fun e w' => e = .returned (.int .i64 (Pl.vEnd d i : Nat)) ∧ w' = w := by
  rw [vEnd_str d i (by omega) h1]
  have HC : Hid (∀ j, j < n → w.cell? ⟨g, j, none⟩ = some (.int .u8 (d.getD j 0))) := hc
  have HB : Hid (∀ x ∈ d, 0 ≤ x ∧ x ≤ 255) := hb
  have hcell : w.cell? ⟨g, i, none⟩ = some (.int .u8 34) := by rw [hc _ hlt, h1]
  have e4 : ((i : Int) == (n : Int)) = false := beq_eq_false_iff_ne.2 (by omega)
  obtain ⟨R, hR⟩ : ∃ R, R = i + 1 + Pl.sLen false (d.drop (i + 1)) := ⟨_, rfl⟩
  rw [← hR]
  have HR : Hid (R = i + 1 + Pl.sLen false (d.drop (i + 1))) := hR
  clear hR hc h1 hb
  go_enter Try.func13, Try.ntmps13
  go_wp2_with fail
  refine (stringEnd_any g n cap i d _ hn hlt hcap hN HB.out HC.out).mono ?_
  rintro e w' ⟨rfl, rfl⟩
  rw [← HR.out]
  go_wp2
  go_ret
  exact ⟨rfl, rfl⟩

/-! ### the bracket loop's rounds, in plain words -/
theorem rd_str (d : List Int) (k n R : Nat) (dep : Int) (hn : d.length = n) (hk : k < n) (hc : d.getD k 0 = 34) (HK : R = k + Pl.mLen dep false false (d.drop k))
    (HD : 1 ≤ dep ∨ (dep = 0 ∧ k < n ∧ (d.getD k 0 = 123 ∨ d.getD k 0 = 91))) :
    R = (k + 1 + Pl.sLen false (d.drop (k + 1))) + Pl.mLen dep false false (d.drop (k + 1 + Pl.sLen false (d.drop (k + 1)))) ∧ k + 1 + Pl.sLen false (d.drop (k + 1)) ≤ n ∧ 1 ≤ dep := by
  have hd : 1 ≤ dep := by rcases HD with h | ⟨_, _, h⟩ <;> omega
  refine ⟨?_, ?_, hd⟩
  · rw [HK, mLen_step d k (by omega), if_pos hc, Pl.mLen_str dep (by omega), List.drop_drop]; omega
  · have := Pl.sLen_le false (d.drop (k + 1)); simp at this; omega
theorem rd_open (d : List Int) (k n R : Nat) (dep : Int) (hn : d.length = n) (hk : k < n) (hc : d.getD k 0 = 123 ∨ d.getD k 0 = 91) (HK : R = k + Pl.mLen dep false false (d.drop k)) :
    R = (k + 1) + Pl.mLen (dep + 1) false false (d.drop (k + 1)) := by
  rw [HK, mLen_step d k (by omega), if_neg (by omega), if_pos hc]; omega
theorem rd_close (d : List Int) (k n R : Nat) (dep : Int) (hn : d.length = n) (hk : k < n) (hc : d.getD k 0 = 125 ∨ d.getD k 0 = 93) (HK : R = k + Pl.mLen dep false false (d.drop k))
    (HD : 1 ≤ dep ∨ (dep = 0 ∧ k < n ∧ (d.getD k 0 = 123 ∨ d.getD k 0 = 91))) :
    1 ≤ dep ∧ (dep = 1 → R = k + 1) ∧ (dep ≠ 1 → R = (k + 1) + Pl.mLen (dep - 1) false false (d.drop (k + 1))) := by
  refine ⟨by rcases HD with h | ⟨_, _, h⟩ <;> omega, fun h => ?_, fun h => ?_⟩
  · rw [HK, mLen_step d k (by omega), if_neg (by omega), if_neg (by omega), if_pos hc, if_pos (by omega)]
  · rw [HK, mLen_step d k (by omega), if_neg (by omega), if_neg (by omega), if_pos hc, if_neg (by omega)]; omega
theorem rd_else (d : List Int) (k n R : Nat) (dep : Int) (hn : d.length = n) (hk : k < n) (h1 : d.getD k 0 ≠ 34) (h2 : d.getD k 0 ≠ 123) (h3 : d.getD k 0 ≠ 91) (h4 : d.getD k 0 ≠ 125) (h5 : d.getD k 0 ≠ 93) (HK : R = k + Pl.mLen dep false false (d.drop k))
    (HD : 1 ≤ dep ∨ (dep = 0 ∧ k < n ∧ (d.getD k 0 = 123 ∨ d.getD k 0 = 91))) : 1 ≤ dep ∧ R = (k + 1) + Pl.mLen dep false false (d.drop (k + 1)) := by
  refine ⟨by rcases HD with h | ⟨_, _, h⟩ <;> omega, ?_⟩
  rw [HK, mLen_step d k (by omega), if_neg (by omega), if_neg (by omega), if_neg (by omega)]; omega

set_option maxHeartbeats 1000000 in
/-- the bracket's way -/
theorem valueEnd_open (g n cap i : Nat) (d : List Int) (w : World) (hn : d.length = n) (hlt : i < n) (hcap : n ≤ cap) (hN : cap ≤ 1099511627776) (hb : ∀ x ∈ d, 0 ≤ x ∧ x ≤ 255)
    (hc : ∀ j, j < n → w.cell? ⟨g, j, none⟩ = some (.int .u8 (d.getD j 0))) (h1 : d.getD i 0 = 123 ∨ d.getD i 0 = 91) :
    Calls Try.prog 13 #[.slice (some ⟨g, 0, none⟩) n cap, .int .i64 i] w fun e w' => e = .returned (.int .i64 (Pl.vEnd d i : Nat)) ∧ w' = w := by
  obtain ⟨R, hR⟩ : ∃ R, R = Pl.vEnd d i := ⟨_, rfl⟩
  rw [← hR]
  have HR : Hid (R = i + Pl.mLen 0 false false (d.drop i)) := by
    show _ = _
    rw [hR, vEnd_open d i (by omega) h1]
  have HC : Hid (∀ j, j < n → w.cell? ⟨g, j, none⟩ = some (.int .u8 (d.getD j 0))) := hc
  have HB : Hid (∀ x ∈ d, 0 ≤ x ∧ x ≤ 255) := hb
  have H1 : Hid (d.getD i 0 = 123 ∨ d.getD i 0 = 91) := h1
  obtain ⟨c, hcd⟩ : ∃ c, c = d.getD i 0 := ⟨_, rfl⟩
  have hcell : w.cell? ⟨g, i, none⟩ = some (.int .u8 c) := by rw [hc _ hlt, hcd]
  rw [← hcd] at h1
  have e4 : ((i : Int) == (n : Int)) = false := beq_eq_false_iff_ne.2 (by omega)
  clear hR hc hcd hb
  have key : (c == 34) = false ∧ ((c == 123) = true ∨ ((c == 123) = false ∧ (c == 91) = true)) := by
    rcases h1 with h | h <;> subst h <;> decide
  clear h1
  obtain ⟨k1, k2⟩ := key
  go_enter Try.func13, Try.ntmps13
  rcases k2 with k2 | ⟨k2, k3⟩
  all_goals
    go_wp2
    go_loop [1, 5] (fun t u => ∃ (k : Nat) (dep : Int), k ≤ n ∧ 0 ≤ dep ∧ dep ≤ k ∧ t = .int .i64 k ∧ u = .int .i64 dep ∧ Hid (R = k + Pl.mLen dep false false (d.drop k)) ∧ Hid (1 ≤ dep ∨ (dep = 0 ∧ k < n ∧ (d.getD k 0 = 123 ∨ d.getD k 0 = 91)))) (fun t _ => n - (intOf t).toNat)
    case atStart => exact ⟨i, 0, by omega, by omega, by omega, by go_num, rfl, HR, .inr ⟨rfl, hlt, H1.out⟩⟩
    case round =>
      obtain ⟨k, dep, hk, hd0, hdk, rfl, rfl, HK, HD⟩ := hrel
      clear hcell
      by_cases hkn : k < n
      · obtain ⟨c', hcd⟩ : ∃ c, c = d.getD k 0 := ⟨_, rfl⟩
        have hcell : w.cell? ⟨g, k, none⟩ = some (.int .u8 c') := by rw [HC.out _ hkn, hcd]
        have HCD : Hid (c' = d.getD k 0) := hcd
        clear hcd
        rcases (show c' = 34 ∨ (c' = 123 ∨ c' = 91) ∨ (c' = 125 ∨ c' = 93) ∨ (c' ≠ 34 ∧ c' ≠ 123 ∧ c' ≠ 91 ∧ c' ≠ 125 ∧ c' ≠ 93) from by omega) with h | h | h | ⟨h34, h123, h91, h125, h93⟩
        · subst h
          obtain ⟨q1, q2, q3⟩ := rd_str d k n R dep hn hkn HCD.out.symm HK.out HD.out
          have Q1 := show Hid _ from q1
          obtain ⟨r, hr⟩ : ∃ r, r = k + 1 + Pl.sLen false (d.drop (k + 1)) := ⟨_, rfl⟩
          rw [← hr] at q2
          have hkr : k < r := by omega
          have HRR := show Hid _ from hr
          clear q1 hr
          go_wp2_with fail
          refine (stringEnd_any g n cap k d _ hn hkn hcap hN HB.out HC.out).mono ?_
          rintro e w' ⟨rfl, rfl⟩
          have hrr := HRR.out
          rw [← hrr]
          clear hrr
          go_wp2
          go_round
          case rel =>
            refine ⟨r, dep, by omega, by omega, by omega, rfl, rfl, ?_, .inl q3⟩
            show _ = _
            rw [HRR.out]; exact Q1.out
          case measure => simp [intOf]; omega
        · have Q := show Hid _ from rd_open d k n R dep hn hkn (by rw [← HCD.out]; exact h) HK.out
          rcases h with h | h
          all_goals
            subst h
            go_wp2
            go_round
            case rel => exact ⟨k + 1, dep + 1, by omega, by omega, by omega, by go_num, rfl, Q, .inl (by omega)⟩
            case measure => simp [intOf]; omega
        · obtain ⟨q1, q2, q3⟩ := rd_close d k n R dep hn hkn (by rw [← HCD.out]; exact h) HK.out HD.out
          have Q2 := show Hid _ from q2
          have Q3 := show Hid _ from q3
          clear q2 q3
          by_cases hd1 : dep = 1
          · have HE : Hid (R = k + 1) := Q2.out hd1
            have hd1' : (dep - 1 == 0) = true := by rw [beq_iff_eq]; omega
            clear hd1 Q2 Q3
            rcases h with h | h
            all_goals
              subst h
              go_wp2
              go_ret
              exact ⟨ret_int (by rw [HE.out]; omega), rfl⟩
          · have HE := show Hid _ from Q3.out hd1
            have hd1' : (dep - 1 == 0) = false := by rw [beq_eq_false_iff_ne]; omega
            have hd2 : 2 ≤ dep := by omega
            clear hd1 Q2 Q3
            rcases h with h | h
            all_goals
              subst h
              go_wp2
              go_round
              case rel => exact ⟨k + 1, dep - 1, by omega, by omega, by omega, by go_num, rfl, HE, .inl (by omega)⟩
              case measure => simp [intOf]; omega
        · have HE := show Hid _ from rd_else d k n R dep hn hkn (by rw [← HCD.out]; exact h34) (by rw [← HCD.out]; exact h123) (by rw [← HCD.out]; exact h91) (by rw [← HCD.out]; exact h125) (by rw [← HCD.out]; exact h93) HK.out HD.out
          have f1 : (c' == 34) = false := beq_eq_false_iff_ne.2 h34
          have f2 : (c' == 123) = false := beq_eq_false_iff_ne.2 h123
          have f3 : (c' == 91) = false := beq_eq_false_iff_ne.2 h91
          have f4 : (c' == 125) = false := beq_eq_false_iff_ne.2 h125
          have f5 : (c' == 93) = false := beq_eq_false_iff_ne.2 h93
          clear h34 h123 h91 h125 h93
          go_wp2
          go_round
          case rel => exact ⟨k + 1, dep, by omega, by omega, by omega, by go_num, rfl, HE.out.2, .inl HE.out.1⟩
          case measure => simp [intOf]; omega
      · have HE : Hid (R = k) := by
          show R = k
          rw [HK.out, List.drop_of_length_le (by omega)]; simp [Pl.mLen]
        go_wp2
        go_ret
        exact ⟨ret_int (by rw [HE.out]), rfl⟩

/-- valueEnd, at a slice at the head of a block. -/
theorem valueEnd_any (g n cap i : Nat) (d : List Int) (w : World) (hn : d.length = n) (hi : i ≤ n) (hcap : n ≤ cap) (hN : cap ≤ 1099511627776) (hb : ∀ x ∈ d, 0 ≤ x ∧ x ≤ 255)
    (hc : ∀ j, j < n → w.cell? ⟨g, j, none⟩ = some (.int .u8 (d.getD j 0))) :
    Calls Try.prog 13 #[.slice (some ⟨g, 0, none⟩) n cap, .int .i64 i] w fun e w' => e = .returned (.int .i64 (Pl.vEnd d i : Nat)) ∧ w' = w := by
  by_cases hlt : i < n
  · by_cases h34 : d.getD i 0 = 34
    · exact valueEnd_string g n cap i d w hn hlt hcap hN hb hc h34
    · by_cases ho : d.getD i 0 = 123 ∨ d.getD i 0 = 91
      · exact valueEnd_open g n cap i d w hn hlt hcap hN hb hc ho
      · exact valueEnd_scalar g n cap i d w hn hlt hcap hN hc h34 (by omega) (by omega)
  · have hin : i = n := by omega
    subst hin
    rw [Pl.vEnd_end d i hn.symm]
    clear hc hb
    go_enter Try.func13, Try.ntmps13
    go_wp2
    go_ret
    exact ⟨rfl, rfl⟩

/-- valueEnd at a slice without an element, whatever its address (nil). -/
theorem valueEnd_nil (ao : Option Addr) (cap : Nat) (w : World) :
    Calls Try.prog 13 #[.slice ao 0 cap, .int .i64 0] w fun e w' => e = .returned (.int .i64 0) ∧ w' = w := by
  go_enter Try.func13, Try.ntmps13
  go_wp2
  go_ret
  exact ⟨rfl, rfl⟩
end Go.Proofs.Qxb6600288a
