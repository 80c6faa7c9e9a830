/-
  THE PLAIN MATHEMATICS OF THE JOINED FIELDS: lists of numbers, no Go in sight.
-/
import Derived.Test.Qxb6600576aPlain
namespace Go.Proofs.Qxb6600576a.Pl
set_option linter.unusedSimpArgs false
set_option linter.unusedVariables false

theorem join_snoc (l : List (List Int)) (a : List Int) : join (l ++ [a]) = if l.length = 0 then a else join l ++ 44 :: a := by
  induction l with
  | nil => simp [join]
  | cons x r ih =>
    cases r with
    | nil => simp [join]
    | cons y t =>
      have e : (x :: y :: t) ++ [a] = x :: y :: (t ++ [a]) := rfl
      rw [e]
      have e2 : join (x :: y :: (t ++ [a])) = x ++ 44 :: join ((y :: t) ++ [a]) := rfl
      rw [e2, ih]
      simp [join]

/-- what is laid down after k fields -/
theorem join_take_succ (fs : List (List Int)) (k : Nat) (h : k < fs.length) : join (fs.take (k + 1)) = if k = 0 then fs.getD k [] else join (fs.take k) ++ 44 :: fs.getD k [] := by
  rw [List.take_succ_eq_append_getElem h, join_snoc]
  have e : fs.getD k [] = fs[k] := by simp [List.getD_eq_getElem?_getD, h]
  rw [e]
  have : (fs.take k).length = k := by simp; omega
  rw [this]

/-- the guard's sum -/
def tot : List (List Int) → Nat
  | [] => 0
  | a :: r => 16 + a.length + tot r

theorem tot_append (a b : List (List Int)) : tot (a ++ b) = tot a + tot b := by
  induction a with
  | nil => simp [tot]
  | cons x r ih => simp only [List.cons_append, tot, ih]; omega

theorem tot_take_succ (fs : List (List Int)) (k : Nat) (h : k < fs.length) : tot (fs.take (k + 1)) = tot (fs.take k) + (16 + (fs.getD k []).length) := by
  rw [List.take_succ_eq_append_getElem h, tot_append]
  have e : fs.getD k [] = fs[k] := by simp [List.getD_eq_getElem?_getD, h]
  rw [e]
  simp [tot]

theorem tot_take_le (fs : List (List Int)) (k : Nat) : tot (fs.take k) ≤ tot fs := by
  have h := tot_append (fs.take k) (fs.drop k)
  rw [List.take_append_drop] at h
  omega

theorem join_le_tot (fs : List (List Int)) : (join fs).length ≤ tot fs := by
  induction fs with
  | nil => simp [join]
  | cons a r ih =>
    cases r with
    | nil => simp [join, tot]
    | cons b t =>
      have e : join (a :: b :: t) = a ++ 44 :: join (b :: t) := rfl
      rw [e]
      simp only [List.length_append, List.length_cons, tot] at ih ⊢
      omega

/-- With the next comma: still within the sum. -/
theorem join_take_room (fs : List (List Int)) (k : Nat) (h : k < fs.length) : (join (fs.take k)).length + 1 + (fs.getD k []).length ≤ tot fs := by
  have h1 := join_le_tot (fs.take k)
  have h2 := tot_take_succ fs k h
  have h3 := tot_take_le fs (k + 1)
  omega

theorem len_le_tot (fs : List (List Int)) (k : Nat) (h : k < fs.length) : (fs.getD k []).length ≤ tot fs := by
  have := join_take_room fs k h; omega

theorem pre_succ (fs : List (List Int)) (k : Nat) (h : k < fs.length) : pre fs (k + 1) = pre fs k + ((fs.getD k []).length + 1) := by
  induction fs generalizing k with
  | nil => simp at h
  | cons a r ih =>
    cases k with
    | zero => simp [pre]
    | succ k =>
      have := ih k (by simpa using h)
      simp only [pre] at this ⊢
      rw [this]
      simp; omega

theorem pre_le_tot (fs : List (List Int)) (k : Nat) : pre fs k ≤ tot fs := by
  induction fs generalizing k with
  | nil => cases k <;> simp [pre]
  | cons a r ih =>
    cases k with
    | zero => simp [pre]
    | succ k => have := ih k; simp only [pre, tot]; omega

/-! ### the line end of a joined line -/
theorem lend_ends (l e : List Int) (hl : 0 < l.length → l.getD (l.length - 1) 0 ≠ 10 ∧ l.getD (l.length - 1) 0 ≠ 13) (he : e = [] ∨ e = [10] ∨ e = [13, 10]) : lend (l ++ e) = l.length := by
  rcases he with rfl | rfl | rfl
  · simp only [List.append_nil]
    have h1 : lend1 l = l.length := by
      unfold lend1
      rw [if_neg (fun h => (hl h.1).1 h.2)]
    unfold lend
    rw [h1, if_neg (fun h => (hl h.1).2 h.2)]
  · have h1 : lend1 (l ++ [10]) = l.length := by
      unfold lend1
      rw [if_pos (by simp [List.getD_eq_getElem?_getD])]
      simp
    unfold lend
    rw [h1, if_neg]
    rintro ⟨h, h'⟩
    apply (hl h).2
    simp only [List.getD_eq_getElem?_getD] at h' ⊢
    rwa [List.getElem?_append_left (by omega)] at h'
  · have h1 : lend1 (l ++ [13, 10]) = l.length + 1 := by
      unfold lend1
      rw [if_pos (by simp [List.getD_eq_getElem?_getD])]
      simp
    unfold lend
    rw [h1, if_pos (by simp [List.getD_eq_getElem?_getD])]
    rfl

theorem join_last (fs : List (List Int)) (n : Nat) (hn : fs.length = n + 1) (hlast : 0 < (fs.getD n []).length → (fs.getD n []).getD ((fs.getD n []).length - 1) 0 ≠ 10 ∧ (fs.getD n []).getD ((fs.getD n []).length - 1) 0 ≠ 13) :
    0 < (join fs).length → (join fs).getD ((join fs).length - 1) 0 ≠ 10 ∧ (join fs).getD ((join fs).length - 1) 0 ≠ 13 := by
  have h := join_take_succ fs n (by omega)
  rw [List.take_of_length_le (by omega)] at h
  generalize fs.getD n [] = a at *
  rw [h]
  intro hp
  split
  · rename_i h0
    rw [if_pos h0] at hp
    exact hlast hp
  · rename_i h0
    by_cases ha : 0 < a.length
    · have := hlast ha
      have e : (join (fs.take n) ++ 44 :: a).getD ((join (fs.take n) ++ 44 :: a).length - 1) 0 = a.getD (a.length - 1) 0 := by
        simp only [List.getD_eq_getElem?_getD]
        rw [List.getElem?_append_right (by simp)]
        have : (join (fs.take n) ++ 44 :: a).length - 1 - (join (fs.take n)).length = (a.length - 1) + 1 := by simp; omega
        rw [this, List.getElem?_cons_succ]
      rw [e]; exact this
    · have : a = [] := List.eq_nil_of_length_eq_zero (by omega)
      subst this
      simp [List.getD_eq_getElem?_getD]

/-- THE LAW 'FindsJoinedField', in plain words. -/
theorem joined (fs : List (List Int)) (n : Nat) (hn : fs.length = n + 1) (hfree : ∀ a ∈ fs, ∀ x ∈ a, x ≠ 44)
    (hlast : 0 < (fs.getD n []).length → (fs.getD n []).getD ((fs.getD n []).length - 1) 0 ≠ 10 ∧ (fs.getD n []).getD ((fs.getD n []).length - 1) 0 ≠ 13)
    (e : List Int) (he : e = [] ∨ e = [10] ∨ e = [13, 10]) (col : Nat) (hc : col < fs.length) :
    from_ (join fs ++ e) col = pre fs col ∧ to_ (join fs ++ e) col = pre fs col + (fs.getD col []).length := by
  have hl := lend_ends (join fs) e (join_last fs n hn hlast) he
  obtain ⟨h1, h2⟩ := join_field fs hfree col hc
  unfold to_ from_
  rw [hl]
  have ht : (join fs ++ e).take (join fs).length = join fs := by simp
  rw [ht, h2, h1]
  exact ⟨rfl, rfl⟩

theorem join_range (fs : List (List Int)) (h : ∀ a ∈ fs, ∀ x ∈ a, 0 ≤ x ∧ x ≤ 255) : ∀ x ∈ join fs, 0 ≤ x ∧ x ≤ 255 := by
  induction fs with
  | nil => simp [join]
  | cons a r ih =>
    cases r with
    | nil => simpa [join] using h a (by simp)
    | cons b t =>
      have e : join (a :: b :: t) = a ++ 44 :: join (b :: t) := rfl
      rw [e]
      intro x hx
      rcases List.mem_append.1 hx with hx | hx
      · exact h a (by simp) x hx
      · rcases List.mem_cons.1 hx with rfl | hx
        · omega
        · exact ih (fun y hy => h y (by simp [hy])) x hx

theorem mem_getD (fs : List (List Int)) (a : List Int) (h : a ∈ fs) : ∃ k, k < fs.length ∧ a = fs.getD k [] := by
  obtain ⟨k, hk⟩ := List.getElem?_of_mem h
  exact ⟨k, (List.getElem?_eq_some_iff.1 hk).1, by rw [List.getD_eq_getElem?_getD, hk]; rfl⟩

/-- a line without a byte has one field, or none -/
theorem join_nil_len (fs : List (List Int)) (h : (join fs).length = 0) : fs.length ≤ 1 := by
  match fs with
  | [] => simp
  | [a] => simp
  | a :: b :: t =>
    have e : join (a :: b :: t) = a ++ 44 :: join (b :: t) := rfl
    rw [e] at h
    simp at h
end Go.Proofs.Qxb6600576a.Pl
