/-
  THE PLAIN MATHEMATICS OF isEmptyQuery: lists of numbers, no Go in sight.
-/
namespace Go.Proofs.Qxb6600826a.Pl
set_option linter.unusedSimpArgs false
set_option linter.unusedVariables false

def space (c : Int) : Bool := decide (c = 32) || decide (c = 9) || decide (c = 10) || decide (c = 13) || decide (c = 12) || decide (c = 11)

/-- blockCommentEnd from inside, at a depth: how many bytes are read up to the close that brings the depth to nought. -/
def bc : Int → List Int → Option Nat
  | _, [] => none
  | _, [_] => none
  | dep, a :: b :: r =>
    if a = 47 ∧ b = 42 then (bc (dep + 1) r).map (· + 2)
    else if a = 42 ∧ b = 47 then (if dep - 1 = 0 then some 2 else (bc (dep - 1) r).map (· + 2))
    else (bc dep (b :: r)).map (· + 1)

/-- The first line end. -/
def nl : List Int → Option Nat
  | [] => none
  | c :: r => if c = 10 ∨ c = 13 then some 0 else (nl r).map (· + 1)

/-- isEmptyQuery, with fuel. -/
def ef : Nat → List Int → Bool
  | _, [] => true
  | 0, _ :: _ => false
  | n + 1, c :: r =>
    if space c = true then ef n r
    else if c = 45 ∧ r.head? = some 45 then (match nl (c :: r) with | none => true | some e => ef n ((c :: r).drop (e + 1)))
    else if c = 47 ∧ r.head? = some 42 then (match bc 0 (c :: r) with | none => false | some e => ef n ((c :: r).drop e))
    else false

def isE (l : List Int) : Bool := ef l.length l

theorem bc_le : ∀ (dep : Int) (l : List Int) (e : Nat), bc dep l = some e → 1 ≤ e ∧ e ≤ l.length
  | _, [], e, h => by simp [bc] at h
  | _, [_], e, h => by simp [bc] at h
  | dep, a :: b :: r, e, h => by
    simp only [bc] at h
    split at h
    · obtain ⟨m, hm, rfl⟩ := Option.map_eq_some_iff.1 h
      have := bc_le _ _ _ hm
      simp; omega
    · split at h
      · split at h
        · simp at h; subst h; simp
        · obtain ⟨m, hm, rfl⟩ := Option.map_eq_some_iff.1 h
          have := bc_le _ _ _ hm
          simp; omega
      · obtain ⟨m, hm, rfl⟩ := Option.map_eq_some_iff.1 h
        have := bc_le _ _ _ hm
        simp at this ⊢; omega

theorem nl_lt : ∀ (l : List Int) (e : Nat), nl l = some e → e < l.length
  | [], e, h => by simp [nl] at h
  | c :: r, e, h => by
    simp only [nl] at h
    split at h
    · simp at h; subst h; simp
    · obtain ⟨m, hm, rfl⟩ := Option.map_eq_some_iff.1 h
      have := nl_lt _ _ hm
      simp; omega

theorem ef_fuel : ∀ (n m : Nat) (l : List Int), l.length ≤ n → l.length ≤ m → ef n l = ef m l
  | _, _, [], _, _ => by simp [ef]
  | 0, _, _ :: _, h, _ => by simp at h
  | _ + 1, 0, _ :: _, _, h => by simp at h
  | n + 1, m + 1, c :: r, h1, h2 => by
    simp only [List.length_cons] at h1 h2
    simp only [ef]
    split
    · exact ef_fuel n m r (by omega) (by omega)
    · split
      · cases hnl : nl (c :: r) with
        | none => rfl
        | some e =>
          simp only []
          apply ef_fuel n m
          · simp; omega
          · simp; omega
      · split
        · cases hb : bc 0 (c :: r) with
          | none => rfl
          | some e =>
            have := (bc_le 0 _ e hb).1
            simp only []
            apply ef_fuel n m
            · simp; omega
            · simp; omega
        · rfl

theorem isE_nil : isE [] = true := rfl

theorem isE_cons (c : Int) (r : List Int) : isE (c :: r) =
    if space c = true then isE r
    else if c = 45 ∧ r.head? = some 45 then (match nl (c :: r) with | none => true | some e => isE ((c :: r).drop (e + 1)))
    else if c = 47 ∧ r.head? = some 42 then (match bc 0 (c :: r) with | none => false | some e => isE ((c :: r).drop e))
    else false := by
  unfold isE
  simp only [List.length_cons, ef]
  split
  · rfl
  · split
    · cases hnl : nl (c :: r) with
      | none => rfl
      | some e =>
        simp only []
        apply ef_fuel
        · simp
        · simp
    · split
      · cases hb : bc 0 (c :: r) with
        | none => rfl
        | some e =>
          have := (bc_le 0 _ e hb).1
          simp only []
          apply ef_fuel
          · simp; omega
          · simp
      · rfl

/-! ### the pieces -/
theorem isE_space (c : Int) (x : List Int) (h : space c = true) : isE (c :: x) = isE x := by
  rw [isE_cons, if_pos h]

theorem nl_app (t x : List Int) (c : Int) (h : ∀ y ∈ t, ¬ (y = 10 ∨ y = 13)) (hc : c = 10 ∨ c = 13) : nl (t ++ c :: x) = some t.length := by
  induction t with
  | nil => simp [nl, hc]
  | cons a r ih =>
    simp only [List.cons_append, nl, if_neg (h a (by simp)), ih (fun y hy => h y (by simp [hy]))]
    simp

theorem isE_line (t x : List Int) (c : Int) (h : ∀ y ∈ t, ¬ (y = 10 ∨ y = 13)) (hc : c = 10 ∨ c = 13) : isE (45 :: 45 :: t ++ c :: x) = isE x := by
  have e : (45 :: 45 :: t ++ c :: x : List Int) = 45 :: (45 :: t ++ c :: x) := rfl
  rw [e, isE_cons, if_neg (by decide), if_pos ⟨rfl, rfl⟩]
  have hn : nl (45 :: (45 :: t ++ c :: x)) = some (t.length + 2) := by
    have := nl_app (45 :: 45 :: t) x c (by
      intro y hy
      rcases List.mem_cons.1 hy with rfl | hy
      · decide
      · rcases List.mem_cons.1 hy with rfl | hy
        · decide
        · exact h y hy) hc
    simpa using this
  rw [hn]
  have hd : (45 :: (45 :: t ++ c :: x) : List Int).drop (t.length + 2 + 1) = x := by
    simp [List.drop_append]
  simp only [hd]

/-- A stretch without a mark: each star and slash has a blank behind it. -/
def harmless : List Int → List Int
  | [] => []
  | c :: r => if c = 42 ∨ c = 47 then c :: 32 :: harmless r else c :: harmless r

theorem harmless_length (t : List Int) : t.length ≤ (harmless t).length ∧ (harmless t).length ≤ 2 * t.length := by
  induction t with
  | nil => simp [harmless]
  | cons c r ih => simp only [harmless]; split <;> simp <;> omega

/-- A byte that is no mark's first is passed over. -/
theorem bc_skip (dep : Int) (c : Int) (y : List Int) (h1 : c ≠ 47) (h2 : c ≠ 42) : bc dep (c :: y) = (bc dep y).map (· + 1) := by
  cases y with
  | nil => simp [bc]
  | cons b r =>
    simp only [bc]
    rw [if_neg (fun h => h1 h.1), if_neg (fun h => h2 h.1)]

theorem bc_mark (dep : Int) (c : Int) (y : List Int) (h : c = 42 ∨ c = 47) : bc dep (c :: 32 :: y) = (bc dep y).map (· + 2) := by
  simp only [bc]
  rw [if_neg (by omega), if_neg (by omega), bc_skip dep 32 y (by decide) (by decide)]
  cases bc dep y <;> simp

theorem bc_harmless (dep : Int) (t y : List Int) : bc dep (harmless t ++ y) = (bc dep y).map (· + (harmless t).length) := by
  induction t with
  | nil => simp [harmless]
  | cons c r ih =>
    simp only [harmless]
    split
    · rename_i h
      have e : (c :: 32 :: harmless r) ++ y = c :: 32 :: (harmless r ++ y) := rfl
      rw [e, bc_mark dep c _ h, ih]
      cases bc dep y <;> simp; omega
    · rename_i h
      have e : (c :: harmless r) ++ y = c :: (harmless r ++ y) := rfl
      rw [e, bc_skip dep c _ (by omega) (by omega), ih]
      cases bc dep y <;> simp; omega

theorem bc_open (dep : Int) (y : List Int) : bc dep (47 :: 42 :: y) = (bc (dep + 1) y).map (· + 2) := by
  simp [bc]

theorem bc_close (dep : Int) (y : List Int) : bc dep (42 :: 47 :: y) = if dep = 1 then some 2 else (bc (dep - 1) y).map (· + 2) := by
  simp only [bc]
  rw [if_neg (by decide), if_pos (by decide)]
  by_cases h : dep = 1
  · rw [if_pos h, if_pos (by omega)]
  · rw [if_neg h, if_neg (by omega)]

/-- the opens: one for each part -/
def opens : List (List Int) → List Int
  | [] => []
  | t :: r => 47 :: 42 :: harmless t ++ opens r

def closes : Nat → List Int
  | 0 => []
  | n + 1 => 42 :: 47 :: closes n

theorem bc_opens (dep : Int) (ts : List (List Int)) (y : List Int) : bc dep (opens ts ++ y) = (bc (dep + ts.length) y).map (· + (opens ts).length) := by
  induction ts generalizing dep with
  | nil => simp [opens]
  | cons t r ih =>
    have e : opens (t :: r) ++ y = 47 :: 42 :: (harmless t ++ (opens r ++ y)) := by simp [opens]
    rw [e, bc_open, bc_harmless, ih]
    have e2 : dep + 1 + (r.length : Int) = dep + ((t :: r).length : Int) := by simp; omega
    rw [e2]
    cases bc (dep + ((t :: r).length : Int)) y <;> simp [opens]; omega

theorem bc_closes (n : Nat) (y : List Int) : bc ((n : Int) + 1) (closes (n + 1) ++ y) = some (closes (n + 1)).length := by
  induction n with
  | zero => simp [closes, bc_close]
  | succ n ih =>
    have e : closes (n + 1 + 1) ++ y = 42 :: 47 :: (closes (n + 1) ++ y) := rfl
    rw [e, bc_close, if_neg (by omega)]
    have e2 : ((n + 1 : Nat) : Int) + 1 - 1 = (n : Int) + 1 := by omega
    rw [e2, ih]
    simp [closes]

theorem isE_block (ts : List (List Int)) (n : Nat) (hn : ts.length = n + 1) (x : List Int) : isE (opens ts ++ closes (n + 1) ++ x) = isE x := by
  cases ts with
  | nil => simp at hn
  | cons t r =>
    have hb : bc 0 (opens (t :: r) ++ (closes (n + 1) ++ x)) = some ((opens (t :: r)).length + (closes (n + 1)).length) := by
      rw [bc_opens, hn]
      have e : (0 : Int) + ((n + 1 : Nat) : Int) = (n : Int) + 1 := by omega
      rw [e, bc_closes]
      simp; omega
    rw [List.append_assoc]
    generalize hw : opens (t :: r) ++ (closes (n + 1) ++ x) = w at hb
    have hw2 : ∃ z, w = 47 :: 42 :: z := ⟨harmless t ++ opens r ++ (closes (n + 1) ++ x), by rw [← hw]; simp [opens]⟩
    obtain ⟨z, rfl⟩ := hw2
    rw [isE_cons, if_neg (by decide), if_neg (by simp), if_pos ⟨rfl, rfl⟩, hb]
    simp only []
    rw [← hw, ← List.append_assoc, List.drop_append]
    simp

theorem isE_stop (c : Int) (x : List Int) (h1 : space c = false) (h2 : c ≠ 45) (h3 : c ≠ 47) : isE (c :: x) = false := by
  rw [isE_cons, h1]
  rw [if_neg (by decide), if_neg (fun h => h2 h.1), if_neg (fun h => h3 h.1)]
end Go.Proofs.Qxb6600826a.Pl
