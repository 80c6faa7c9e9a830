/-
  WHAT IS OF NO PROGRAM: the next release's version text, and its tags.
-/
import Derived.Test.Qxb6601124aDoorPlain
namespace Go.Proofs.Qxb6601124aDoor.Pl
set_option linter.unusedSimpArgs false
set_option linter.unusedVariables false

def val : Nat → List UInt8 → Nat
  | v, [] => v
  | v, c :: r => val (v * 10 + (c.toNat - 48)) r

theorem val_append : ∀ (l m : List UInt8) (v : Nat), val v (l ++ m) = val (val v l) m
  | [], _, _ => rfl
  | c :: l, m, v => val_append l m _

theorem val_one (v : Nat) (c : UInt8) : val v [c] = v * 10 + (c.toNat - 48) := rfl

theorem run_digits : ∀ (l : List UInt8) (v : Nat) (b : Bool), (∀ c ∈ l, digit c = true) → (smallRun v b l).2.2 = [] ∧ (b = false → (smallRun v b l).2.1 = false → (smallRun v b l).1 = val v l)
  | [], v, b, _ => ⟨rfl, fun _ _ => rfl⟩
  | c :: r, v, b, h => by
    have hc := h c (by simp)
    have hr : ∀ x ∈ r, digit x = true := fun x hx => h x (by simp [hx])
    cases b with
    | true =>
      have e : smallRun v true (c :: r) = smallRun v true r := by simp only [smallRun]; rw [if_pos hc, if_pos trivial]
      rw [e]
      exact ⟨(run_digits r v true hr).1, fun e => by cases e⟩
    | false =>
      have e : smallRun v false (c :: r) = smallRun (v * 10 + (c.toNat - 48)) (decide (1048576 < v * 10 + (c.toNat - 48))) r := by
        simp only [smallRun]; rw [if_pos hc, if_neg (by decide)]
      rw [e]
      refine ⟨(run_digits r _ _ hr).1, fun _ hb => ?_⟩
      cases hd : decide (1048576 < v * 10 + (c.toNat - 48)) with
      | true => rw [hd, smallRun_big] at hb; cases hb
      | false =>
        rw [hd] at hb
        exact (run_digits r _ false hr).2 rfl hb

theorem dig_nat (d : Nat) (h : d < 10) : (UInt8.ofNat (48 + d)).toNat = 48 + d := by
  rw [UInt8.toNat_ofNat']
  omega

theorem dig_ok (d : Nat) (h : d < 10) : digit (UInt8.ofNat (48 + d)) = true := by
  unfold digit
  rw [dig_nat d h, decide_eq_true (by omega), decide_eq_true (by omega)]
  rfl

theorem dec_digits (n : Nat) : (∀ c ∈ Lib.decDigits n, digit c = true) ∧ val 0 (Lib.decDigits n) = n ∧ Lib.decDigits n ≠ [] := by
  induction n using Nat.strongRecOn with
  | _ n ih =>
    by_cases h : n < 10
    · rw [Lib.decDigits, dif_pos h]
      refine ⟨fun c hc => ?_, ?_, by simp⟩
      · rw [List.mem_singleton] at hc; subst hc; exact dig_ok n h
      · rw [val_one, dig_nat n h]
        omega
    · rw [Lib.decDigits, dif_neg h]
      obtain ⟨h1, h2, h3⟩ := ih (n / 10) (by omega)
      refine ⟨fun c hc => ?_, ?_, by simp⟩
      · rcases List.mem_append.1 hc with hc | hc
        · exact h1 c hc
        · rw [List.mem_singleton] at hc; subst hc; exact dig_ok (n % 10) (Nat.mod_lt n (by decide))
      · rw [val_append, h2]
        rw [val_one, dig_nat (n % 10) (Nat.mod_lt n (by decide))]
        omega

theorem digit_ne {c : UInt8} (h : digit c = true) : c ≠ 46 ∧ c ≠ 43 ∧ c ≠ 45 := by
  refine ⟨?_, ?_, ?_⟩ <;> (intro e; subst e; revert h; decide)

/-- The numeral of n, read back. -/
theorem numeral (n : Nat) : sOk (Lib.decDigits n) = true ∧ (sBig (Lib.decDigits n) = false → sVal (Lib.decDigits n) = n) ∧ ∀ c ∈ Lib.decDigits n, c ≠ 46 := by
  obtain ⟨h1, h2, h3⟩ := dec_digits n
  have hs : sgn (Lib.decDigits n) = false ∧ neg (Lib.decDigits n) = false := by
    cases hd : Lib.decDigits n with
    | nil => exact ⟨rfl, rfl⟩
    | cons c r =>
      have := digit_ne (h1 c (by rw [hd]; simp))
      simp [sgn, neg, this.2.1, this.2.2]
  have hb : body (Lib.decDigits n) = Lib.decDigits n := by unfold body; rw [hs.1]; rfl
  obtain ⟨r1, r2⟩ := run_digits (Lib.decDigits n) 0 false h1
  refine ⟨?_, ?_, fun c hc => (digit_ne (h1 c hc)).1⟩
  · unfold sOk
    rw [hb, r1]
    simp [h3]
  · intro hbig
    unfold sBig at hbig
    rw [hb] at hbig
    unfold sVal
    rw [hs.2, hb, r2 rfl hbig, h2]
    rfl

theorem itoa_pos (n : Int) (h : 0 ≤ n) : Lib.itoa n = Lib.decDigits n.toNat := by unfold Lib.itoa; rw [if_neg (by omega)]

/-- The next release's text behind 11 on. -/
def newer11 (l : List UInt8) (M : Int) : List UInt8 := Lib.itoa (M + 1) ++ l.drop (majL l).length
/-- The next release's text at 10.m. -/
def newer10 (mn : Int) : List UInt8 := [49, 48, 46] ++ Lib.itoa (mn + 1)

theorem newer11_cut (l : List UInt8) (M : Int) (h : 0 ≤ M) : majL (newer11 l M) = Lib.itoa (M + 1) ∧ minL (newer11 l M) = minL l := by
  have hd : ∀ c ∈ Lib.itoa (M + 1), c ≠ 46 := by rw [itoa_pos _ (by omega)]; exact (numeral _).2.2
  unfold newer11 majL minL
  rcases cutL_rest l with ⟨h1, h2⟩ | h1
  · rw [h1, List.append_nil, cutL_none _ hd, h2]
    exact ⟨rfl, rfl⟩
  · rw [h1, cutL_app _ _ hd]
    exact ⟨rfl, rfl⟩

theorem newer10_cut (mn : Int) (h : 0 ≤ mn) : majL (newer10 mn) = [49, 48] ∧ minL (newer10 mn) = Lib.itoa (mn + 1) := by
  have hd : ∀ c ∈ Lib.itoa (mn + 1), c ≠ 46 := by rw [itoa_pos _ (by omega)]; exact (numeral _).2.2
  have e : newer10 mn = [49, 48] ++ 46 :: Lib.itoa (mn + 1) := rfl
  unfold majL minL
  rw [e, cutL_app _ _ (by decide), cutL_none _ hd]
  exact ⟨rfl, rfl⟩

theorem down_succ (f : Int → List ByteArray) (lo : Int) (n : Nat) : down f lo (n + 1) = f (lo + n) ++ down f lo n := rfl

theorem got_11 (a : ByteArray) (l : List UInt8) (M : Int) (hok : pOk l = true) (hM : pMaj l = M) (h11 : 11 ≤ M) (ht : pThrough (newer11 l M) = true) :
    got a (newer11 l M) = blk (ver11 (M + 1)) (fmts a) ++ got a l := by
  obtain ⟨hc1, hc2⟩ := newer11_cut l M (by omega)
  have hnum := numeral (M + 1).toNat
  rw [← itoa_pos _ (by omega)] at hnum
  have ho : sOk (majL (newer11 l M)) = true := by rw [hc1]; exact hnum.1
  have hp : pOk (newer11 l M) = true := by simp [pOk, ho, ht]
  have hb : sBig (majL (newer11 l M)) = false := by
    cases hb : sBig (majL (newer11 l M)) with
    | false => rfl
    | true => simp [pThrough, ho, hb] at ht
  have hv : sVal (majL (newer11 l M)) = M + 1 := by
    rw [hc1] at hb ⊢
    rw [hnum.2.1 hb]
    omega
  have hM2 : pMaj (newer11 l M) = M + 1 := by unfold pMaj; rw [if_pos hp, hv]
  unfold got
  rw [if_pos hp, if_pos hok, hM, hM2]
  unfold tags
  rw [if_neg (by omega), if_neg (by omega)]
  have e : (M + 1 - 10).toNat = (M - 10).toNat + 1 := by omega
  rw [e, down_succ, List.append_assoc]
  congr 3
  omega

theorem got_10 (a : ByteArray) (l : List UInt8) (mn : Int) (hok : pOk l = true) (hM : pMaj l = 10) (hmn : pMin l = mn) (h3 : 3 ≤ mn) (ht : pThrough (newer10 mn) = true) :
    got a (newer10 mn) = blk (ver10 (mn + 1)) (fmts a) ++ got a l := by
  obtain ⟨hc1, hc2⟩ := newer10_cut mn (by omega)
  have hnum := numeral (mn + 1).toNat
  rw [← itoa_pos _ (by omega)] at hnum
  have ho : sOk (majL (newer10 mn)) = true := by rw [hc1]; decide
  have hv : sVal (majL (newer10 mn)) = 10 := by rw [hc1]; decide
  have hbM : sBig (majL (newer10 mn)) = false := by rw [hc1]; decide
  have hp : pOk (newer10 mn) = true := by simp [pOk, ho, ht]
  have ho2 : sOk (minL (newer10 mn)) = true := by rw [hc2]; exact hnum.1
  have hb : sBig (minL (newer10 mn)) = false := by
    cases hb : sBig (minL (newer10 mn)) with
    | false => rfl
    | true => simp [pThrough, ho, hbM, hv, hb] at ht
  have hv2 : sVal (minL (newer10 mn)) = mn + 1 := by
    rw [hc2] at hb ⊢
    rw [hnum.2.1 hb]
    omega
  have hM2 : pMaj (newer10 mn) = 10 := by unfold pMaj; rw [if_pos hp, hv]
  have hm2 : pMin (newer10 mn) = mn + 1 := by unfold pMin; rw [if_pos hp, if_pos ho2, hv2]
  unfold got
  rw [if_pos hp, if_pos hok, hM, hM2, hmn, hm2]
  unfold tags
  rw [if_pos rfl, if_pos rfl]
  have e : (mn + 1 - 3).toNat = (mn - 3).toNat + 1 := by omega
  rw [e, down_succ]
  congr 3
  omega
end Go.Proofs.Qxb6601124aDoor.Pl
