/-
  THE PLAIN MATHEMATICS OF valueEnd: lists of numbers, no Go in sight.
-/
namespace Go.Proofs.Qxb6600288a.Pl
set_option linter.unusedSimpArgs false
set_option linter.unusedVariables false

/-- How many bytes of the inside of a string are read up to and with its closing quote (all, where it is not closed). -/
def sLen : Bool → List Int → Nat
  | _, [] => 0
  | true, _ :: r => 1 + sLen false r
  | false, c :: r => if c = 34 then 1 else 1 + sLen (decide (c = 92)) r

/-- Is an escape pending behind these bytes? -/
def st : Bool → List Int → Bool
  | e, [] => e
  | true, _ :: r => st false r
  | false, c :: r => st (decide (c = 92)) r

/-- The one-pass machine: how many bytes are read. -/
def mLen : Int → Bool → Bool → List Int → Nat
  | _, _, _, [] => 0
  | dep, true, true, _ :: r => 1 + mLen dep true false r
  | dep, true, false, c :: r => if c = 92 then 1 + mLen dep true true r else if c = 34 then (if dep = 0 then 1 else 1 + mLen dep false false r) else 1 + mLen dep true false r
  | dep, false, esc, c :: r => if c = 34 then 1 + mLen dep true esc r else if c = 123 ∨ c = 91 then 1 + mLen (dep + 1) false esc r else if c = 125 ∨ c = 93 then (if dep - 1 = 0 then 1 else 1 + mLen (dep - 1) false esc r) else 1 + mLen dep false esc r

def delim (c : Int) : Bool := decide (c = 32) || decide (c = 9) || decide (c = 13) || decide (c = 10) || decide (c = 44) || decide (c = 93) || decide (c = 125)

/-- A scalar's length. -/
def tLen : List Int → Nat
  | [] => 0
  | c :: r => if delim c = true then 0 else 1 + tLen r

def opens (c : Int) : Bool := decide (c = 34) || decide (c = 123) || decide (c = 91)

def vLen : List Int → Nat
  | [] => 0
  | c :: r => if opens c = true then mLen 0 false false (c :: r) else tLen (c :: r)

def vEnd (d : List Int) (i : Nat) : Nat := i + vLen (d.drop i)

/-! ### bounds -/
theorem sLen_le (e : Bool) (l : List Int) : sLen e l ≤ l.length := by
  induction l generalizing e with
  | nil => cases e <;> simp [sLen]
  | cons c r ih =>
    cases e
    · simp only [sLen]
      split
      · simp
      · have := ih (decide (c = 92)); simp; omega
    · simp only [sLen]; have := ih false; simp; omega

theorem mLen_le (dep : Int) (s e : Bool) (l : List Int) : mLen dep s e l ≤ l.length := by
  induction l generalizing dep s e with
  | nil => cases s <;> cases e <;> simp [mLen]
  | cons c r ih =>
    cases s
    · simp only [mLen]
      have h1 := ih dep true e
      have h2 := ih (dep + 1) false e
      have h3 := ih (dep - 1) false e
      have h4 := ih dep false e
      simp only [List.length_cons]
      repeat' split
      all_goals omega
    · cases e
      · simp only [mLen]
        have h1 := ih dep true true
        have h2 := ih dep false false
        have h3 := ih dep true false
        simp only [List.length_cons]
        repeat' split
        all_goals omega
      · simp only [mLen]
        have := ih dep true false
        simp only [List.length_cons]
        omega

theorem tLen_le (l : List Int) : tLen l ≤ l.length := by
  induction l with
  | nil => simp [tLen]
  | cons c r ih =>
    simp only [tLen, List.length_cons]
    split <;> omega

theorem vLen_le (l : List Int) : vLen l ≤ l.length := by
  cases l with
  | nil => simp [vLen]
  | cons c r =>
    simp only [vLen]
    split
    · exact mLen_le ..
    · exact tLen_le ..

theorem vEnd_le (d : List Int) (i : Nat) (h : i ≤ d.length) : vEnd d i ≤ d.length := by
  have := vLen_le (d.drop i)
  simp at this
  unfold vEnd
  omega

theorem le_vEnd (d : List Int) (i : Nat) : i ≤ vEnd d i := by unfold vEnd; omega

theorem vEnd_end (d : List Int) (i : Nat) (h : i = d.length) : vEnd d i = i := by
  unfold vEnd
  rw [List.drop_of_length_le (by omega)]
  rfl

/-! ### the string inside the machine -/
theorem mLen_str (dep : Int) (hd : dep ≠ 0) (e : Bool) (l : List Int) : mLen dep true e l = sLen e l + mLen dep false false (l.drop (sLen e l)) := by
  induction l generalizing e with
  | nil => cases e <;> simp [mLen, sLen]
  | cons c r ih =>
    cases e
    · simp only [mLen, sLen]
      by_cases h34 : c = 34
      · subst h34; simp [hd]
      · by_cases h92 : c = 92
        · subst h92
          simp only [if_true, if_neg h34]
          rw [ih true]
          simp [Nat.add_comm 1, Nat.add_assoc, Nat.add_left_comm]
        · rw [if_neg h92, if_neg h34, if_neg h34, ih false]
          simp [h92, Nat.add_comm 1, Nat.add_assoc, Nat.add_left_comm]
    · simp only [mLen, sLen]
      rw [ih false]
      simp [Nat.add_comm 1, Nat.add_assoc, Nat.add_left_comm]

theorem mLen_zero_str (e : Bool) (l : List Int) : mLen 0 true e l = sLen e l := by
  induction l generalizing e with
  | nil => cases e <;> simp [mLen, sLen]
  | cons c r ih =>
    cases e
    · simp only [mLen, sLen]
      by_cases h34 : c = 34
      · subst h34; simp
      · by_cases h92 : c = 92
        · subst h92; simp [ih true]
        · simp [h34, h92, ih false]
    · simp only [mLen, sLen, ih false]

/-! ### the escapes -/
theorem st_snoc (e : Bool) (a : List Int) (c : Int) : st e (a ++ [c]) = (!st e a && decide (c = 92)) := by
  induction a generalizing e with
  | nil => cases e <;> simp [st]
  | cons x r ih => cases e <;> simp [st, ih]

/-- Behind a stretch without a quote. -/
theorem sLen_app (e : Bool) (a r : List Int) (h : ∀ c ∈ a, c ≠ 34) : sLen e (a ++ 34 :: r) = a.length + (if st e a = true then 1 + sLen false r else 1) := by
  induction a generalizing e with
  | nil => cases e <;> simp [sLen, st]
  | cons x t ih =>
    have hx : x ≠ 34 := h x (by simp)
    have ht : ∀ c ∈ t, c ≠ 34 := fun c hc => h c (by simp [hc])
    cases e
    · have hi := ih (decide (x = 92)) ht
      simp only [List.cons_append, sLen, List.length_cons, if_neg hx]
      rw [hi]
      have e : st false (x :: t) = st (decide (x = 92)) t := rfl
      rw [e]
      cases st (decide (x = 92)) t <;> simp <;> omega
    · have hi := ih false ht
      simp only [List.cons_append, sLen, List.length_cons]
      rw [hi]
      have e : st true (x :: t) = st false t := rfl
      rw [e]
      cases st false t <;> simp <;> omega

theorem sLen_none (e : Bool) (l : List Int) (h : ∀ c ∈ l, c ≠ 34) : sLen e l = l.length := by
  induction l generalizing e with
  | nil => cases e <;> simp [sLen]
  | cons x t ih =>
    have hx : x ≠ 34 := h x (by simp)
    have ht : ∀ c ∈ t, c ≠ 34 := fun c hc => h c (by simp [hc])
    cases e
    · simp only [sLen, List.length_cons, if_neg hx, ih _ ht]; omega
    · simp only [sLen, List.length_cons, ih _ ht]; omega

theorem st_take (l : List Int) (q : Nat) (hq : q < l.length) : st false (l.take (q + 1)) = (!st false (l.take q) && decide (l.getD q 0 = 92)) := by
  rw [List.take_succ_eq_append_getElem hq, st_snoc]
  simp [List.getD_eq_getElem?_getD, hq]

/-- A run of t backslashes ahead of place q, with none ahead of them: pending just where t is odd. -/
theorem st_run (l : List Int) (q t : Nat) (hq : q ≤ l.length) (ht : t ≤ q) (hrun : ∀ m, m < t → l.getD (q - 1 - m) 0 = 92) (hstop : t = q ∨ l.getD (q - 1 - t) 0 ≠ 92) :
    st false (l.take q) = decide (t % 2 = 1) := by
  have h0 : st false (l.take (q - t)) = false := by
    rcases hstop with h | h
    · subst h; simp [st]
    · by_cases hz : q - t = 0
      · rw [hz]; simp [st]
      · obtain ⟨k, hk⟩ : ∃ k, q - t = k + 1 := ⟨q - t - 1, by omega⟩
        rw [hk, st_take l k (by omega)]
        rw [show q - 1 - t = k from by omega] at h
        rw [decide_eq_false h, Bool.and_false]
  have hm : ∀ m, m ≤ t → st false (l.take (q - t + m)) = decide (m % 2 = 1) := by
    intro m
    induction m with
    | zero => intro _; simpa using h0
    | succ m ih =>
      intro hmt
      rw [← Nat.add_assoc, st_take l _ (by omega), ih (by omega)]
      have := hrun (t - 1 - m) (by omega)
      rw [show q - 1 - (t - 1 - m) = q - t + m from by omega] at this
      simp only [this, decide_true, Bool.and_true]
      rw [Bool.eq_iff_iff]
      simp
      omega
  have := hm t (Nat.le_refl _)
  rwa [show q - t + t = q from by omega] at this

theorem split_at (l : List Int) (q : Nat) (hq : q < l.length) (h : l.getD q 0 = 34) : l = l.take q ++ 34 :: l.drop (q + 1) := by
  have e : l.drop q = 34 :: l.drop (q + 1) := by
    rw [List.drop_eq_getElem_cons hq]
    have : l[q] = 34 := by simpa [List.getD_eq_getElem?_getD, hq] using h
    rw [this]
  rw [← e, List.take_append_drop]

theorem sLen_at (l : List Int) (q t : Nat) (hq : q < l.length) (h34 : l.getD q 0 = 34) (hfree : ∀ x ∈ l.take q, x ≠ 34) (ht : t ≤ q) (hrun : ∀ m, m < t → l.getD (q - 1 - m) 0 = 92) (hstop : t = q ∨ l.getD (q - 1 - t) 0 ≠ 92) :
    sLen false l = q + (if t % 2 = 1 then 1 + sLen false (l.drop (q + 1)) else 1) := by
  have h1 := sLen_app false (l.take q) (l.drop (q + 1)) hfree
  rw [← split_at l q hq h34, st_run l q t (by omega) ht hrun hstop] at h1
  rw [h1, List.length_take, Nat.min_eq_left (by omega)]
  simp

/-! ### the self-delimiting law -/
theorem tLen_take (l : List Int) : tLen (l.take (tLen l)) = tLen l := by
  induction l with
  | nil => simp [tLen]
  | cons c r ih =>
    simp only [tLen]
    split
    · simp [tLen]
    · rename_i h
      rw [Nat.add_comm 1, List.take_succ_cons]
      simp only [tLen, if_neg h, ih]
      omega

theorem mLen_take (dep : Int) (s e : Bool) (l : List Int) : mLen dep s e (l.take (mLen dep s e l)) = mLen dep s e l := by
  induction l generalizing dep s e with
  | nil => cases s <;> cases e <;> simp [mLen]
  | cons c r ih =>
    cases s
    · simp only [mLen]
      by_cases h34 : c = 34
      · simp only [if_pos h34]; rw [Nat.add_comm 1, List.take_succ_cons]; simp only [mLen, if_pos h34, ih]; omega
      · simp only [if_neg h34]
        by_cases hop : c = 123 ∨ c = 91
        · simp only [if_pos hop]; rw [Nat.add_comm 1, List.take_succ_cons]; simp only [mLen, if_pos hop, if_neg h34, ih]; omega
        · simp only [if_neg hop]
          by_cases hcl : c = 125 ∨ c = 93
          · simp only [if_pos hcl]
            by_cases hd : dep - 1 = 0
            · simp only [if_pos hd]; simp only [List.take_succ_cons, List.take_zero, mLen, if_neg h34, if_neg hop, if_pos hcl, if_pos hd]
            · simp only [if_neg hd]; rw [Nat.add_comm 1, List.take_succ_cons]; simp only [mLen, if_neg h34, if_neg hop, if_pos hcl, if_neg hd, ih]; omega
          · simp only [if_neg hcl]; rw [Nat.add_comm 1, List.take_succ_cons]; simp only [mLen, if_neg h34, if_neg hop, if_neg hcl, ih]; omega
    · cases e
      · simp only [mLen]
        by_cases h92 : c = 92
        · simp only [if_pos h92]; rw [Nat.add_comm 1, List.take_succ_cons]; simp only [mLen, if_pos h92, ih]; omega
        · simp only [if_neg h92]
          by_cases h34 : c = 34
          · simp only [if_pos h34]
            by_cases hd : dep = 0
            · simp only [if_pos hd]; simp only [List.take_succ_cons, List.take_zero, mLen, if_neg h92, if_pos h34, if_pos hd]
            · simp only [if_neg hd]; rw [Nat.add_comm 1, List.take_succ_cons]; simp only [mLen, if_neg h92, if_pos h34, if_neg hd, ih]; omega
          · simp only [if_neg h34]; rw [Nat.add_comm 1, List.take_succ_cons]; simp only [mLen, if_neg h92, if_neg h34, ih]; omega
      · simp only [mLen]
        rw [Nat.add_comm 1, List.take_succ_cons]; simp only [mLen, ih]; omega

theorem mLen_pos (dep : Int) (s e : Bool) (c : Int) (r : List Int) : 0 < mLen dep s e (c :: r) := by
  cases s
  · simp only [mLen]; repeat' split
    all_goals omega
  · cases e
    · simp only [mLen]; repeat' split
      all_goals omega
    · simp only [mLen]; omega

theorem vLen_opens (c : Int) (r : List Int) (h : opens c = true) : vLen (c :: r) = mLen 0 false false (c :: r) := by simp only [vLen, if_pos h]
theorem vLen_plain (c : Int) (r : List Int) (h : opens c = false) : vLen (c :: r) = tLen (c :: r) := by simp [vLen, h]

theorem vLen_take (l : List Int) : vLen (l.take (vLen l)) = vLen l := by
  cases l with
  | nil => simp [vLen]
  | cons c r =>
    cases h : opens c
    · rw [vLen_plain c r h]
      have ht := tLen_take (c :: r)
      generalize hm : tLen (c :: r) = m at *
      cases m with
      | zero => simp [vLen]
      | succ k =>
        rw [List.take_succ_cons] at ht ⊢
        rw [vLen_plain c _ h, ht]
    · rw [vLen_opens c r h]
      have hp := mLen_pos 0 false false c r
      have ht := mLen_take 0 false false (c :: r)
      generalize hm : mLen 0 false false (c :: r) = m at *
      obtain ⟨k, rfl⟩ : ∃ k, m = k + 1 := ⟨m - 1, by omega⟩
      rw [List.take_succ_cons] at ht ⊢
      rw [vLen_opens c _ h, ht]

theorem vEnd_take (d : List Int) (i : Nat) (h : i ≤ d.length) : vEnd (d.take (vEnd d i)) i = vEnd d i := by
  unfold vEnd
  rw [List.drop_take, show i + vLen (d.drop i) - i = vLen (d.drop i) from by omega, vLen_take]

theorem drop_cons (d : List Int) (i : Nat) (h : i < d.length) : d.drop i = d.getD i 0 :: d.drop (i + 1) := by
  rw [List.drop_eq_getElem_cons h]; simp [List.getD_eq_getElem?_getD, h]

theorem vEnd_pos (d : List Int) (i : Nat) (h : i < d.length) (hd : delim (d.getD i 0) = false) : i < vEnd d i := by
  unfold vEnd
  rw [drop_cons d i h]
  simp only [vLen]
  split
  · have := mLen_pos 0 false false (d.getD i 0) (d.drop (i + 1)); omega
  · simp only [tLen, hd]; simp; omega

theorem vEnd_app (p d : List Int) (i : Nat) : vEnd (p ++ d) (p.length + i) = p.length + vEnd d i := by
  unfold vEnd
  rw [List.drop_append]
  rw [List.drop_of_length_le (by omega), show p.length + i - p.length = i from by omega]
  simp; omega

end Go.Proofs.Qxb6600288a.Pl
