/-
  THE PLAIN MATHEMATICS OF plainField: lists of numbers, no Go in sight.
-/
namespace Go.Proofs.Qxb6600576a.Pl
set_option linter.unusedSimpArgs false
set_option linter.unusedVariables false

/-- How many bytes lie ahead of the first comma (all, where there is none). -/
def fLen : List Int → Nat
  | [] => 0
  | c :: r => if c = 44 then 0 else 1 + fLen r

/-- How many bytes lie up to and with the first comma (0 where there is none). -/
def nxt (l : List Int) : Nat := if fLen l < l.length then fLen l + 1 else 0

/-- Where the field in column j begins, in a line without its line end. -/
def F (l : List Int) : Nat → Nat
  | 0 => 0
  | j + 1 => F l j + nxt (l.drop (F l j))

def cnt : List Int → Nat
  | [] => 0
  | c :: r => (if c = 44 then 1 else 0) + cnt r

theorem fLen_le (l : List Int) : fLen l ≤ l.length := by
  induction l with
  | nil => simp [fLen]
  | cons c r ih => simp only [fLen, List.length_cons]; split <;> omega

theorem nxt_le (l : List Int) : nxt l ≤ l.length := by unfold nxt; split <;> omega

theorem F_le (l : List Int) (j : Nat) : F l j ≤ l.length := by
  induction j with
  | zero => simp [F]
  | succ j ih =>
    have := nxt_le (l.drop (F l j))
    simp at this
    simp only [F]; omega

theorem fLen_none (l : List Int) (h : ∀ x ∈ l, x ≠ 44) : fLen l = l.length := by
  induction l with
  | nil => simp [fLen]
  | cons c r ih =>
    have := h c (by simp)
    simp only [fLen, if_neg this, List.length_cons, ih (fun x hx => h x (by simp [hx]))]; omega

theorem fLen_at (l : List Int) (q : Nat) (hq : q < l.length) (h : l.getD q 0 = 44) (hf : ∀ x ∈ l.take q, x ≠ 44) : fLen l = q := by
  induction l generalizing q with
  | nil => simp at hq
  | cons c r ih =>
    cases q with
    | zero => simp at h; simp [fLen, h]
    | succ q =>
      have hc : c ≠ 44 := hf c (by simp)
      simp only [fLen, if_neg hc]
      rw [ih q (by simpa using hq) (by simpa using h) (fun x hx => hf x (by simp [hx]))]
      omega

theorem fLen_free (l : List Int) (i : Nat) (h : i < fLen l) : l.getD i 0 ≠ 44 := by
  induction l generalizing i with
  | nil => simp [fLen] at h
  | cons c r ih =>
    simp only [fLen] at h
    split at h
    · omega
    · rename_i hc
      cases i with
      | zero => simpa using hc
      | succ i => simpa using ih i (by omega)

theorem fLen_comma (l : List Int) (h : fLen l < l.length) : l.getD (fLen l) 0 = 44 := by
  induction l with
  | nil => simp at h
  | cons c r ih =>
    simp only [fLen] at h ⊢
    split
    · rename_i hc; simp [hc]
    · rename_i hc
      rw [if_neg hc] at h
      rw [Nat.add_comm 1]
      simpa using ih (by simp at h; omega)

theorem cnt_append (a b : List Int) : cnt (a ++ b) = cnt a + cnt b := by
  induction a with
  | nil => simp [cnt]
  | cons c r ih => simp only [List.cons_append, cnt, ih]; omega

theorem cnt_le (l : List Int) : cnt l ≤ l.length := by
  induction l with
  | nil => simp [cnt]
  | cons c r ih => simp only [cnt, List.length_cons]; split <;> omega

theorem cnt_take_succ (l : List Int) (k : Nat) (h : k < l.length) : cnt (l.take (k + 1)) = cnt (l.take k) + (if l.getD k 0 = 44 then 1 else 0) := by
  rw [List.take_succ_eq_append_getElem h, cnt_append]
  have e : l.getD k 0 = l[k] := by simp [List.getD_eq_getElem?_getD, h]
  rw [e]
  simp [cnt]

theorem cnt_field (l : List Int) (h : 1 ≤ cnt l) : fLen l < l.length ∧ cnt (l.take (fLen l + 1)) = 1 := by
  induction l with
  | nil => simp [cnt] at h
  | cons c r ih =>
    simp only [cnt] at h
    by_cases hc : c = 44
    · simp [fLen, hc, cnt]
    · rw [if_neg hc] at h
      obtain ⟨h1, h2⟩ := ih (by omega)
      simp only [fLen, if_neg hc, List.length_cons]
      refine ⟨by omega, ?_⟩
      rw [Nat.add_comm 1, List.take_succ_cons]
      simp only [cnt, if_neg hc, h2]

/-- The field in column j: j commas lie ahead of it, and it begins at the head or just behind a comma. -/
theorem F_spec (l : List Int) (j : Nat) (hj : j ≤ cnt l) : cnt (l.take (F l j)) = j ∧ (F l j = 0 ∨ l.getD (F l j - 1) 0 = 44) := by
  induction j with
  | zero => simp [F, cnt]
  | succ j ih =>
    obtain ⟨h1, h2⟩ := ih (by omega)
    have hsum : cnt (l.take (F l j)) + cnt (l.drop (F l j)) = cnt l := by rw [← cnt_append, List.take_append_drop]
    obtain ⟨g1, g2⟩ := cnt_field (l.drop (F l j)) (by omega)
    have e : F l (j + 1) = F l j + (fLen (l.drop (F l j)) + 1) := by simp only [F, nxt, if_pos g1]
    rw [e]
    constructor
    · rw [List.take_add, cnt_append, h1, g2]
    · right
      have := fLen_comma _ g1
      simp only [List.getD_eq_getElem?_getD, List.getElem?_drop] at this ⊢
      rw [show F l j + (fLen (l.drop (F l j)) + 1) - 1 = F l j + fLen (l.drop (F l j)) from by omega]
      exact this

theorem field_free (l : List Int) (s i : Nat) (h1 : s ≤ i) (h2 : i < s + fLen (l.drop s)) : l.getD i 0 ≠ 44 := by
  have := fLen_free (l.drop s) (i - s) (by omega)
  simp only [List.getD_eq_getElem?_getD, List.getElem?_drop] at this ⊢
  rwa [show s + (i - s) = i from by omega] at this

theorem field_end (l : List Int) (s : Nat) (hs : s ≤ l.length) : s + fLen (l.drop s) = l.length ∨ (s + fLen (l.drop s) < l.length ∧ l.getD (s + fLen (l.drop s)) 0 = 44) := by
  by_cases h : fLen (l.drop s) < (l.drop s).length
  · right
    have := fLen_comma _ h
    simp only [List.getD_eq_getElem?_getD, List.getElem?_drop] at this ⊢
    simp at h
    exact ⟨by omega, this⟩
  · left
    have := fLen_le (l.drop s)
    simp at h this
    omega

/-! ### the line end -/
def lend1 (d : List Int) : Nat := if 0 < d.length ∧ d.getD (d.length - 1) 0 = 10 then d.length - 1 else d.length
def lend (d : List Int) : Nat := if 0 < lend1 d ∧ d.getD (lend1 d - 1) 0 = 13 then lend1 d - 1 else lend1 d
def lel (d : List Int) : Nat :=
  if 2 ≤ d.length ∧ d.getD (d.length - 2) 0 = 13 ∧ d.getD (d.length - 1) 0 = 10 then 2
  else if 1 ≤ d.length ∧ (d.getD (d.length - 1) 0 = 10 ∨ d.getD (d.length - 1) 0 = 13) then 1 else 0

theorem lend_le (d : List Int) : lend d ≤ d.length := by
  unfold lend lend1
  repeat' split
  all_goals omega

theorem lel_le (d : List Int) : lel d ≤ d.length := by
  unfold lel
  repeat' split
  all_goals omega

theorem lend_lel (d : List Int) : lend d = d.length - lel d := by
  unfold lend lel lend1
  by_cases h10 : 0 < d.length ∧ d.getD (d.length - 1) 0 = 10
  · rw [if_pos h10]
    by_cases h13 : 0 < d.length - 1 ∧ d.getD (d.length - 1 - 1) 0 = 13
    · rw [if_pos h13, if_pos (by refine ⟨by omega, ?_, h10.2⟩; rw [show d.length - 2 = d.length - 1 - 1 from by omega]; exact h13.2)]
      omega
    · rw [if_neg h13, if_neg (by
        rintro ⟨a, b, c⟩
        exact h13 ⟨by omega, by rw [show d.length - 1 - 1 = d.length - 2 from by omega]; exact b⟩), if_pos ⟨by omega, .inl h10.2⟩]
  · rw [if_neg h10]
    rw [if_neg (show ¬ (2 ≤ d.length ∧ d.getD (d.length - 2) 0 = 13 ∧ d.getD (d.length - 1) 0 = 10) from fun ⟨a, b, c⟩ => h10 ⟨by omega, c⟩)]
    by_cases h13 : 0 < d.length ∧ d.getD (d.length - 1) 0 = 13
    · rw [if_pos h13, if_pos ⟨by omega, .inr h13.2⟩]
    · rw [if_neg h13, if_neg (by
        rintro ⟨a, b | b⟩
        · exact h10 ⟨by omega, b⟩
        · exact h13 ⟨by omega, b⟩)]
      omega

theorem lend_drop (d : List Int) : cnt (d.drop (lend d)) = 0 := by
  have h1 : ∀ m, m < d.length → d.getD m 0 ≠ 44 → cnt (d.drop (m + 1)) = 0 → cnt (d.drop m) = 0 := by
    intro m hm hne h0
    rw [List.drop_eq_getElem_cons hm]
    have e : d.getD m 0 = d[m] := by simp [List.getD_eq_getElem?_getD, hm]
    rw [e] at hne
    simp [cnt, hne, h0]
  have h2 : cnt (d.drop (lend1 d)) = 0 := by
    unfold lend1
    split
    · rename_i h
      apply h1 (d.length - 1) (by omega) (by rw [h.2]; decide)
      rw [List.drop_of_length_le (by omega)]; rfl
    · rw [List.drop_of_length_le (by omega)]; rfl
  unfold lend
  split
  · rename_i h
    have hl : lend1 d ≤ d.length := by unfold lend1; split <;> omega
    apply h1 (lend1 d - 1) (by omega) (by rw [h.2]; decide)
    rw [show lend1 d - 1 + 1 = lend1 d from by omega]; exact h2
  · exact h2

theorem cnt_lend (d : List Int) : cnt (d.take (lend d)) = cnt d := by
  have h := cnt_append (d.take (lend d)) (d.drop (lend d))
  rw [List.take_append_drop, lend_drop] at h
  omega

/-! ### what plainField answers -/
def from_ (d : List Int) (col : Nat) : Nat := F (d.take (lend d)) col
def to_ (d : List Int) (col : Nat) : Nat := from_ d col + fLen ((d.take (lend d)).drop (from_ d col))

theorem getD_take (d : List Int) (e i : Nat) (h : i < e) : (d.take e).getD i 0 = d.getD i 0 := by
  simp [List.getD_eq_getElem?_getD, List.getElem?_take, h]

/-- THE LAW 'IsTheColthField', in plain words. -/
theorem colth (d : List Int) (col : Nat) (h : col ≤ cnt d) :
    from_ d col ≤ to_ d col ∧ to_ d col ≤ lend d ∧ cnt (d.take (from_ d col)) = col ∧ (0 < from_ d col → d.getD (from_ d col - 1) 0 = 44) ∧
    (∀ i, from_ d col ≤ i → i < to_ d col → d.getD i 0 ≠ 44) ∧ (to_ d col ≠ lend d → d.getD (to_ d col) 0 = 44) := by
  have hl := lend_le d
  have hlen : (d.take (lend d)).length = lend d := by simp; omega
  have hF := F_le (d.take (lend d)) col
  obtain ⟨s1, s2⟩ := F_spec (d.take (lend d)) col (by rw [cnt_lend]; exact h)
  have hfl := fLen_le ((d.take (lend d)).drop (F (d.take (lend d)) col))
  have hE := field_end (d.take (lend d)) (F (d.take (lend d)) col) hF
  have hfree := field_free (d.take (lend d)) (F (d.take (lend d)) col)
  unfold to_ from_
  rw [List.length_drop] at hfl
  rw [hlen] at hF hE hfl
  generalize F (d.take (lend d)) col = s at *
  generalize fLen ((d.take (lend d)).drop s) = t at *
  refine ⟨by omega, by omega, ?_, ?_, ?_, ?_⟩
  · rw [List.take_take, Nat.min_eq_left hF] at s1; exact s1
  · intro h0
    rcases s2 with h | h
    · omega
    · rwa [getD_take _ _ _ (by omega)] at h
  · intro i h1 h2
    have := hfree i h1 h2
    rwa [getD_take _ _ _ (by omega)] at this
  · intro hne
    rcases hE with h | ⟨h, h'⟩
    · exact absurd h hne
    · rwa [getD_take _ _ _ h] at h'

/-! ### the joined fields -/
/-- fields joined by commas -/
def join : List (List Int) → List Int
  | [] => []
  | [a] => a
  | a :: b :: r => a ++ 44 :: join (b :: r)

/-- the sum of the earlier fields' lengths and commas -/
def pre : List (List Int) → Nat → Nat
  | _, 0 => 0
  | [], _ + 1 => 0
  | a :: r, j + 1 => a.length + 1 + pre r j

theorem fLen_app_comma (a r : List Int) (h : ∀ x ∈ a, x ≠ 44) : fLen (a ++ 44 :: r) = a.length := by
  induction a with
  | nil => simp [fLen]
  | cons c t ih =>
    have := h c (by simp)
    simp only [List.cons_append, fLen, if_neg this, List.length_cons, ih (fun x hx => h x (by simp [hx]))]; omega

theorem F_shift (l : List Int) (j : Nat) : F l (j + 1) = nxt l + F (l.drop (nxt l)) j := by
  induction j with
  | zero => simp [F]
  | succ j ih =>
    have e : F l (j + 1 + 1) = F l (j + 1) + nxt (l.drop (F l (j + 1))) := rfl
    rw [e, ih]
    simp only [F]
    rw [List.drop_drop]
    omega

theorem join_field (fs : List (List Int)) (hfree : ∀ a ∈ fs, ∀ x ∈ a, x ≠ 44) (col : Nat) (hc : col < fs.length) :
    F (join fs) col = pre fs col ∧ fLen ((join fs).drop (F (join fs) col)) = (fs.getD col []).length := by
  induction fs generalizing col with
  | nil => simp at hc
  | cons a r ih =>
    have ha : ∀ x ∈ a, x ≠ 44 := hfree a (by simp)
    cases r with
    | nil =>
      have : col = 0 := by simp at hc; omega
      subst this
      simp [F, pre, join, fLen_none a ha]
    | cons b t =>
      have hj : join (a :: b :: t) = a ++ 44 :: join (b :: t) := rfl
      have hfl : fLen (join (a :: b :: t)) = a.length := by rw [hj, fLen_app_comma a _ ha]
      have hn : nxt (join (a :: b :: t)) = a.length + 1 := by
        unfold nxt; rw [hfl, hj, if_pos (by simp)]
      have hd : (join (a :: b :: t)).drop (a.length + 1) = join (b :: t) := by
        rw [hj, List.drop_append]; simp
      cases col with
      | zero => simp [F, pre, hfl]
      | succ j =>
        obtain ⟨i1, i2⟩ := ih (fun x hx => hfree x (by simp [hx])) j (by simpa using hc)
        rw [F_shift, hn, hd]
        refine ⟨by simp only [pre, i1], ?_⟩
        rw [← List.drop_drop, hd, i2]
        simp
end Go.Proofs.Qxb6600576a.Pl
