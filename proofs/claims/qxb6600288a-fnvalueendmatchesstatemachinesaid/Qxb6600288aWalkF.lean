/-
  THE WALKS: zzValueEndModel, the state machine; the law FnValueEndMatchesStateMachine.
-/
import Derived.Test.Qxb6600288aWalkC
namespace Go.Proofs.Qxb6600288a.Mach
open Go.RowKit
set_option linter.unusedSimpArgs false
set_option linter.unusedVariables false

theorem model_end (ao : Option Addr) (n cap : Nat) (w : World) (hn : n ≤ 1099511627776) :
    Calls Try.prog 9 #[.slice ao n cap, .int .i64 n] w fun e w' => e = .returned (.int .i64 n) ∧ w' = w := by
  go_enter Try.func9, Try.ntmps9
  go_wp2
  go_ret
  exact ⟨rfl, rfl⟩

set_option maxHeartbeats 400000 in
/-- the scalar's way -/
theorem model_scalar (g n cap i : Nat) (d : List Int) (w : World) (hn : d.length = n) (hlt : i < n) (hcap : n ≤ cap) (hN : cap ≤ 1099511627776)
    (hc : ∀ j, j < n → w.cell? ⟨g, j, none⟩ = some (.int .u8 (d.getD j 0))) (h1 : d.getD i 0 ≠ 34) (h2 : d.getD i 0 ≠ 123) (h3 : d.getD i 0 ≠ 91) :
    Calls Try.prog 9 #[.slice (some ⟨g, 0, none⟩) n cap, .int .i64 i] w fun e w' => e = .returned (.int .i64 (Pl.vEnd d i : Nat)) ∧ w' = w := by
  obtain ⟨R, hR⟩ : ∃ R, R = Pl.vEnd d i := ⟨_, rfl⟩
  rw [← hR]
  have HR : Hid (R = i + Pl.tLen (d.drop i)) := by
    show _ = _
    rw [hR, vEnd_scalar d i (by omega) h1 h2 h3]
  have HC : Hid (∀ j, j < n → w.cell? ⟨g, j, none⟩ = some (.int .u8 (d.getD j 0))) := hc
  obtain ⟨c, hcd⟩ : ∃ c, c = d.getD i 0 := ⟨_, rfl⟩
  have hcell : w.cell? ⟨g, i, none⟩ = some (.int .u8 c) := by rw [hc _ hlt, hcd]
  rw [← hcd] at h1 h2 h3
  have e1 : (c != 34) = true := bne_iff_ne.2 h1
  have e2 : (c != 123) = true := bne_iff_ne.2 h2
  have e3 : (c != 91) = true := bne_iff_ne.2 h3
  have e4 : ((i : Int) == (n : Int)) = false := beq_eq_false_iff_ne.2 (by omega)
  clear hR hc hcd h1 h2 h3
  go_enter Try.func9, Try.ntmps9
  go_wp2
  go_loop [7] (fun t => ∃ k : Nat, k ≤ n ∧ t = .int .i64 k ∧ Hid (R = k + Pl.tLen (d.drop k))) (fun t => n - (intOf t).toNat)
  case atStart => exact ⟨i, by omega, by go_num, HR⟩
  case round =>
    obtain ⟨k, hk, rfl, HK⟩ := hrel
    clear hcell
    by_cases hkn : k < n
    · obtain ⟨c', hcd⟩ : ∃ c, c = d.getD k 0 := ⟨_, rfl⟩
      have hcell : w.cell? ⟨g, k, none⟩ = some (.int .u8 c') := by rw [HC.out _ hkn, hcd]
      have HY : Hid (Pl.delim c' = true → R = k) := by
        intro h
        rw [HK.out, tLen_yes d k (by omega) (by rw [← hcd]; exact h)]; rfl
      have HNo : Hid (Pl.delim c' = false → R = k + 1 + Pl.tLen (d.drop (k + 1))) := by
        intro h
        rw [HK.out, tLen_no d k (by omega) (by rw [← hcd]; exact h)]; omega
      clear hcd
      cases hdl : Pl.delim c'
      · go_wp2_with (go_at_call 12; refine (isDelim_any _ _).mono ?_; rintro e w3 ⟨rfl, rfl⟩; rw [hdl])
        go_round
        case rel => exact ⟨k + 1, by omega, by go_num, HNo.out hdl⟩
        case measure => simp [intOf]; omega
      · go_wp2_with (go_at_call 12; refine (isDelim_any _ _).mono ?_; rintro e w3 ⟨rfl, rfl⟩; rw [hdl])
        go_ret
        exact ⟨ret_int (by rw [HY.out hdl]), rfl⟩
    · have HE : Hid (R = k) := by
        show R = k
        rw [HK.out, List.drop_of_length_le (by omega)]; simp [Pl.tLen]
      go_wp2
      go_ret
      exact ⟨ret_int (by rw [HE.out]), rfl⟩

/-! ### the machine's steps, in plain words -/
theorem m_esc (d : List Int) (k n R : Nat) (dep : Int) (hn : d.length = n) (hk : k < n) (HK : R = k + Pl.mLen dep true true (d.drop k)) : R = (k + 1) + Pl.mLen dep true false (d.drop (k + 1)) := by
  rw [HK, Pl.drop_cons d k (by omega)]; simp only [Pl.mLen]; omega
theorem m_back (d : List Int) (k n R : Nat) (dep : Int) (hn : d.length = n) (hk : k < n) (hc : d.getD k 0 = 92) (HK : R = k + Pl.mLen dep true false (d.drop k)) : R = (k + 1) + Pl.mLen dep true true (d.drop (k + 1)) := by
  rw [HK, Pl.drop_cons d k (by omega)]; simp only [Pl.mLen, if_pos hc]; omega
theorem m_quote0 (d : List Int) (k n R : Nat) (hn : d.length = n) (hk : k < n) (hc : d.getD k 0 = 34) (HK : R = k + Pl.mLen 0 true false (d.drop k)) : R = k + 1 := by
  rw [HK, Pl.drop_cons d k (by omega)]; simp only [Pl.mLen, if_neg (show ¬ d.getD k 0 = 92 by omega), if_pos hc, if_true]
theorem m_quote (d : List Int) (k n R : Nat) (dep : Int) (hd : dep ≠ 0) (hn : d.length = n) (hk : k < n) (hc : d.getD k 0 = 34) (HK : R = k + Pl.mLen dep true false (d.drop k)) : R = (k + 1) + Pl.mLen dep false false (d.drop (k + 1)) := by
  rw [HK, Pl.drop_cons d k (by omega)]; simp only [Pl.mLen, if_neg (show ¬ d.getD k 0 = 92 by omega), if_pos hc, if_neg hd]; omega
theorem m_inside (d : List Int) (k n R : Nat) (dep : Int) (hn : d.length = n) (hk : k < n) (hc : d.getD k 0 ≠ 92) (hc2 : d.getD k 0 ≠ 34) (HK : R = k + Pl.mLen dep true false (d.drop k)) : R = (k + 1) + Pl.mLen dep true false (d.drop (k + 1)) := by
  rw [HK, Pl.drop_cons d k (by omega)]; simp only [Pl.mLen, if_neg hc, if_neg hc2]; omega
theorem m_string (d : List Int) (k n R : Nat) (dep : Int) (e : Bool) (hn : d.length = n) (hk : k < n) (hc : d.getD k 0 = 34) (HK : R = k + Pl.mLen dep false e (d.drop k)) : R = (k + 1) + Pl.mLen dep true e (d.drop (k + 1)) := by
  rw [HK, Pl.drop_cons d k (by omega)]; simp only [Pl.mLen, if_pos hc]; omega
theorem m_open (d : List Int) (k n R : Nat) (dep : Int) (e : Bool) (hn : d.length = n) (hk : k < n) (hc : d.getD k 0 = 123 ∨ d.getD k 0 = 91) (HK : R = k + Pl.mLen dep false e (d.drop k)) : R = (k + 1) + Pl.mLen (dep + 1) false e (d.drop (k + 1)) := by
  rw [HK, Pl.drop_cons d k (by omega)]; simp only [Pl.mLen, if_neg (show ¬ d.getD k 0 = 34 by omega), if_pos hc]; omega
theorem m_close0 (d : List Int) (k n R : Nat) (dep : Int) (e : Bool) (hd : dep = 1) (hn : d.length = n) (hk : k < n) (hc : d.getD k 0 = 125 ∨ d.getD k 0 = 93) (HK : R = k + Pl.mLen dep false e (d.drop k)) : R = k + 1 := by
  rw [HK, Pl.drop_cons d k (by omega)]; simp only [Pl.mLen, if_neg (show ¬ d.getD k 0 = 34 by omega), if_neg (show ¬ (d.getD k 0 = 123 ∨ d.getD k 0 = 91) by omega), if_pos hc, if_pos (show dep - 1 = 0 by omega)]
theorem m_close (d : List Int) (k n R : Nat) (dep : Int) (e : Bool) (hd : dep ≠ 1) (hn : d.length = n) (hk : k < n) (hc : d.getD k 0 = 125 ∨ d.getD k 0 = 93) (HK : R = k + Pl.mLen dep false e (d.drop k)) : R = (k + 1) + Pl.mLen (dep - 1) false e (d.drop (k + 1)) := by
  rw [HK, Pl.drop_cons d k (by omega)]; simp only [Pl.mLen, if_neg (show ¬ d.getD k 0 = 34 by omega), if_neg (show ¬ (d.getD k 0 = 123 ∨ d.getD k 0 = 91) by omega), if_pos hc, if_neg (show ¬ dep - 1 = 0 by omega)]; omega
theorem m_else (d : List Int) (k n R : Nat) (dep : Int) (e : Bool) (hn : d.length = n) (hk : k < n) (h1 : d.getD k 0 ≠ 34) (h2 : d.getD k 0 ≠ 123) (h3 : d.getD k 0 ≠ 91) (h4 : d.getD k 0 ≠ 125) (h5 : d.getD k 0 ≠ 93) (HK : R = k + Pl.mLen dep false e (d.drop k)) : R = (k + 1) + Pl.mLen dep false e (d.drop (k + 1)) := by
  rw [HK, Pl.drop_cons d k (by omega)]; simp only [Pl.mLen, if_neg h1, if_neg (show ¬ (d.getD k 0 = 123 ∨ d.getD k 0 = 91) by omega), if_neg (show ¬ (d.getD k 0 = 125 ∨ d.getD k 0 = 93) by omega)]; omega

theorem vEnd_mach (d : List Int) (i : Nat) (h : i < d.length) (hc : d.getD i 0 = 34 ∨ d.getD i 0 = 123 ∨ d.getD i 0 = 91) : Pl.vEnd d i = i + Pl.mLen 0 false false (d.drop i) := by
  unfold Pl.vEnd
  rw [Pl.drop_cons d i h, Pl.vLen_opens _ _ (by rcases hc with hc | hc | hc <;> rw [hc] <;> decide)]

set_option maxHeartbeats 2000000 in
/-- the machine's way -/
theorem model_mach (g n cap i : Nat) (d : List Int) (w : World) (hn : d.length = n) (hlt : i < n) (hcap : n ≤ cap) (hN : cap ≤ 1099511627776)
    (hc : ∀ j, j < n → w.cell? ⟨g, j, none⟩ = some (.int .u8 (d.getD j 0))) (h1 : d.getD i 0 = 34 ∨ d.getD i 0 = 123 ∨ d.getD i 0 = 91) :
    Calls Try.prog 9 #[.slice (some ⟨g, 0, none⟩) n cap, .int .i64 i] w fun e w' => e = .returned (.int .i64 (Pl.vEnd d i : Nat)) ∧ w' = w := by
  obtain ⟨R, hR⟩ : ∃ R, R = Pl.vEnd d i := ⟨_, rfl⟩
  rw [← hR]
  have HR : Hid (R = i + Pl.mLen 0 false false (d.drop i)) := by
    show _ = _
    rw [hR, vEnd_mach d i (by omega) h1]
  have HC : Hid (∀ j, j < n → w.cell? ⟨g, j, none⟩ = some (.int .u8 (d.getD j 0))) := hc
  obtain ⟨c, hcd⟩ : ∃ c, c = d.getD i 0 := ⟨_, rfl⟩
  have hcell : w.cell? ⟨g, i, none⟩ = some (.int .u8 c) := by rw [hc _ hlt, hcd]
  rw [← hcd] at h1
  have e4 : ((i : Int) == (n : Int)) = false := beq_eq_false_iff_ne.2 (by omega)
  clear hR hc hcd
  go_enter Try.func9, Try.ntmps9
  rcases h1 with h1 | h1 | h1
  all_goals
    subst h1
    go_wp2
    go_loop [8, 9, 10, 11] (fun dp ins es j => ∃ (k : Nat) (dep : Int) (s e : Bool), k ≤ n ∧ -(k : Int) ≤ dep ∧ dep ≤ k ∧ dp = .int .i64 dep ∧ ins = .bool s ∧ es = .bool e ∧ j = .int .i64 k ∧ Hid (R = k + Pl.mLen dep s e (d.drop k))) (fun _ _ _ t => n - (intOf t).toNat)
    case atStart => exact ⟨i, 0, false, false, by omega, by omega, by omega, rfl, rfl, rfl, by go_num, HR⟩
    case round =>
      obtain ⟨k, dep, s, e, hk, hd0, hdk, rfl, rfl, rfl, rfl, HK⟩ := hrel
      clear hcell
      by_cases hkn : k < n
      · obtain ⟨c', hcd⟩ : ∃ c, c = d.getD k 0 := ⟨_, rfl⟩
        have hcell : w.cell? ⟨g, k, none⟩ = some (.int .u8 c') := by rw [HC.out _ hkn, hcd]
        have HCD : Hid (d.getD k 0 = c') := hcd.symm
        clear hcd
        cases s
        · rcases (show c' = 34 ∨ (c' = 123 ∨ c' = 91) ∨ (c' = 125 ∨ c' = 93) ∨ (c' ≠ 34 ∧ c' ≠ 123 ∧ c' ≠ 91 ∧ c' ≠ 125 ∧ c' ≠ 93) from by omega) with h | h | h | ⟨h34, h123, h91, h125, h93⟩
          · have HE := show Hid _ from m_string d k n R dep e hn hkn (by rw [HCD.out]; exact h) HK.out
            subst h
            go_wp2
            go_round
            case rel => exact ⟨k + 1, dep, true, e, by omega, by omega, by omega, rfl, rfl, rfl, by go_num, HE⟩
            case measure => simp [intOf]; omega
          · have HE := show Hid _ from m_open d k n R dep e hn hkn (by rw [HCD.out]; exact h) HK.out
            rcases h with h | h
            all_goals
              subst h
              go_wp2
              go_round
              case rel => exact ⟨k + 1, dep + 1, false, e, by omega, by omega, by omega, rfl, rfl, rfl, by go_num, HE⟩
              case measure => simp [intOf]; omega
          · by_cases hd1 : dep = 1
            · have HE := show Hid _ from m_close0 d k n R dep e hd1 hn hkn (by rw [HCD.out]; exact h) HK.out
              have hd1' : (dep - 1 == 0) = true := by rw [beq_iff_eq]; omega
              clear hd1
              rcases h with h | h
              all_goals
                subst h
                go_wp2
                go_ret
                exact ⟨ret_int (by rw [HE.out]; omega), rfl⟩
            · have HE := show Hid _ from m_close d k n R dep e hd1 hn hkn (by rw [HCD.out]; exact h) HK.out
              have hd1' : (dep - 1 == 0) = false := by rw [beq_eq_false_iff_ne]; omega
              clear hd1
              rcases h with h | h
              all_goals
                subst h
                go_wp2
                go_round
                case rel => exact ⟨k + 1, dep - 1, false, e, by omega, by omega, by omega, rfl, rfl, rfl, by go_num, HE⟩
                case measure => simp [intOf]; omega
          · have HE := show Hid _ from m_else d k n R dep e hn hkn (by rw [HCD.out]; exact h34) (by rw [HCD.out]; exact h123) (by rw [HCD.out]; exact h91) (by rw [HCD.out]; exact h125) (by rw [HCD.out]; exact h93) HK.out
            have f1 : (c' == 34) = false := beq_eq_false_iff_ne.2 h34
            have f2 : (c' == 123) = false := beq_eq_false_iff_ne.2 h123
            have f3 : (c' == 91) = false := beq_eq_false_iff_ne.2 h91
            have f4 : (c' == 125) = false := beq_eq_false_iff_ne.2 h125
            have f5 : (c' == 93) = false := beq_eq_false_iff_ne.2 h93
            clear h34 h123 h91 h125 h93
            go_wp2
            go_round
            case rel => exact ⟨k + 1, dep, false, e, by omega, by omega, by omega, rfl, rfl, rfl, by go_num, HE⟩
            case measure => simp [intOf]; omega
        · cases e
          · rcases (show c' = 92 ∨ c' = 34 ∨ (c' ≠ 92 ∧ c' ≠ 34) from by omega) with h | h | ⟨h92, h34⟩
            · have HE := show Hid _ from m_back d k n R dep hn hkn (by rw [HCD.out]; exact h) HK.out
              subst h
              go_wp2
              go_round
              case rel => exact ⟨k + 1, dep, true, true, by omega, by omega, by omega, rfl, rfl, rfl, by go_num, HE⟩
              case measure => simp [intOf]; omega
            · by_cases hd1 : dep = 0
              · subst hd1
                have HE := show Hid _ from m_quote0 d k n R hn hkn (by rw [HCD.out]; exact h) HK.out
                subst h
                go_wp2
                go_ret
                exact ⟨ret_int (by rw [HE.out]; omega), rfl⟩
              · have HE := show Hid _ from m_quote d k n R dep hd1 hn hkn (by rw [HCD.out]; exact h) HK.out
                have hd1' : (dep == 0) = false := by rw [beq_eq_false_iff_ne]; omega
                clear hd1
                subst h
                go_wp2
                go_round
                case rel => exact ⟨k + 1, dep, false, false, by omega, by omega, by omega, rfl, rfl, rfl, by go_num, HE⟩
                case measure => simp [intOf]; omega
            · have HE := show Hid _ from m_inside d k n R dep hn hkn (by rw [HCD.out]; exact h92) (by rw [HCD.out]; exact h34) HK.out
              have f1 : (c' == 92) = false := beq_eq_false_iff_ne.2 h92
              have f2 : (c' == 34) = false := beq_eq_false_iff_ne.2 h34
              clear h92 h34
              go_wp2
              go_round
              case rel => exact ⟨k + 1, dep, true, false, by omega, by omega, by omega, rfl, rfl, rfl, by go_num, HE⟩
              case measure => simp [intOf]; omega
          · have HE := show Hid _ from m_esc d k n R dep hn hkn HK.out
            go_wp2
            go_round
            case rel => exact ⟨k + 1, dep, true, false, by omega, by omega, by omega, rfl, rfl, rfl, by go_num, HE⟩
            case measure => simp [intOf]; omega
      · have HE : Hid (R = n) := by
          show R = n
          rw [HK.out, List.drop_of_length_le (by omega)]; cases s <;> cases e <;> simp [Pl.mLen] <;> omega
        go_wp2
        go_ret
        exact ⟨ret_int (by rw [HE.out]), rfl⟩

/-- zzValueEndModel at whatever slice of the call's own. -/
theorem model_own (g : Nat) (ao : Option Addr) (n cap i : Nat) (d : List Int) (w : World) (h : Own w g ao n d) (hi : i ≤ n) (hcap : n ≤ cap) (hN : cap ≤ 1099511627776) :
    Calls Try.prog 9 #[.slice ao n cap, .int .i64 i] w fun e w' => e = .returned (.int .i64 (Pl.vEnd d i : Nat)) ∧ w' = w := by
  obtain ⟨hn, hb, h⟩ := h
  by_cases hlt : i < n
  · rcases h with ⟨_, h⟩ | ⟨rfl, _, hc⟩
    · omega
    · by_cases ho : d.getD i 0 = 34 ∨ d.getD i 0 = 123 ∨ d.getD i 0 = 91
      · exact model_mach g n cap i d w hn hlt hcap hN hc ho
      · exact model_scalar g n cap i d w hn hlt hcap hN hc (by omega) (by omega) (by omega)
  · obtain rfl : i = n := by omega
    rw [Pl.vEnd_end d i hn.symm]
    exact model_end ao i cap w (by omega)

theorem big (a0 : Option Addr) (len0 cap0 : Nat) (a1 : Int) (w : World) (h : 1048576 < len0) (m0 : len0 ≤ maxLen) :
    Calls Try.prog 3 #[.slice a0 len0 cap0, .int .i64 a1] w fun e w' => e = .returned (.bool true) ∧ Below w.heap.size w w' := by
  unfold maxLen at m0
  go_enter Try.func3, Try.ntmps3
  go_wp2
  all_goals (go_ret; exact ⟨rfl, Below.refl _ _⟩)

theorem out_i (a0 : Option Addr) (len0 cap0 : Nat) (a1 : Int) (w : World) (h : len0 ≤ 1048576) (hi : a1 < 0 ∨ (len0 : Int) < a1) :
    Calls Try.prog 3 #[.slice a0 len0 cap0, .int .i64 a1] w fun e w' => e = .returned (.bool true) ∧ Below w.heap.size w w' := by
  rcases hi with hi | hi
  · go_enter Try.func3, Try.ntmps3
    go_wp2
    all_goals (go_ret; exact ⟨rfl, Below.refl _ _⟩)
  · go_enter Try.func3, Try.ntmps3
    go_wp2
    all_goals (go_ret; exact ⟨rfl, Below.refl _ _⟩)

set_option maxHeartbeats 1000000 in
theorem walk (a0 : Option Addr) (len0 cap0 : Nat) (z0 : List Int) (a1 : Int) (w : World) (w0 : RowIn w a0 len0 cap0 z0) (w1 : (Lit.int .i64 a1).wf = true) :
    Calls Try.prog 3 #[.slice a0 len0 cap0, .int .i64 a1] w fun e w' => e = .returned (.bool true) ∧ Below w.heap.size w w' := by
  have m0 : len0 ≤ maxLen := by
    rcases w0 with ⟨_, h, _⟩ | ⟨_, _, h1, h2, _⟩
    · omega
    · omega
  by_cases hT : len0 ≤ 1048576
  · by_cases hi : a1 < 0 ∨ (len0 : Int) < a1
    · exact out_i a0 len0 cap0 a1 w hT hi
    · obtain ⟨k, rfl⟩ := Int.eq_ofNat_of_zero_le (show 0 ≤ a1 by omega)
      have hk : k ≤ len0 := by omega
      clear hi m0 w1
      have W0 : Hid (RowIn w a0 len0 cap0 z0) := w0
      clear w0
      go_enter Try.func3, Try.ntmps3
      go_wp2_with (go_at_call 6; go_in)
      refine (copy_row a0 len0 cap0 z0 _ W0.out (by omega)).mono ?_
      rintro e w1 ⟨ao, rfl, B1, O1⟩
      generalize z0.take len0 = d at O1
      have HB1 : Hid (Below w.heap.size w w1) := B1
      have HO1 : Hid (Own w1 w.heap.size ao len0 d) := O1
      clear B1 W0 O1
      generalize hv : Pl.vEnd d k = R
      have HV : Hid (Pl.vEnd d k = R) := hv
      clear hv
      go_wp2_with fail
      refine (zz_own w.heap.size _ len0 len0 k d _ HO1.out (by omega) (by omega) (by omega)).mono ?_
      rintro e w2 ⟨rfl, rfl⟩
      rw [HV.out]
      go_wp2_with fail
      refine (model_own w.heap.size _ len0 len0 k d _ HO1.out (by omega) (by omega) (by omega)).mono ?_
      rintro e w3 ⟨rfl, rfl⟩
      rw [HV.out]
      have hfin : ((R : Int) == (R : Int)) = true := by simp
      go_wp2
      go_ret
      exact ⟨rfl, HB1.out⟩
  · exact big a0 len0 cap0 a1 w (by omega) m0
end Go.Proofs.Qxb6600288a.Mach
