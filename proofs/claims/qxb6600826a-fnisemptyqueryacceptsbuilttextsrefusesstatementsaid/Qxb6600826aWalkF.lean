/-
  THE WALKS: buildEmptyQuery.
-/
import Derived.Test.Qxb6600826aWalkE
import Derived.Deep.RegionHeld3
namespace Go.Proofs.Qxb6600826a
open Go.RowKit
set_option linter.unusedSimpArgs false
set_option linter.unusedVariables false

/-- What may be laid ahead of a text and turns nothing. -/
def Good (D : List Int) : Prop := (∀ x, Pl.isE (D ++ x) = Pl.isE x) ∧ ∀ y ∈ D, 0 ≤ y ∧ y ≤ 255

theorem good_nil : Good [] := ⟨fun x => rfl, fun y hy => by simp at hy⟩

theorem Good.app {D P : List Int} (h : Good D) (k : Good P) : Good (D ++ P) := by
  refine ⟨fun x => by rw [List.append_assoc, h.1, k.1], fun y hy => ?_⟩
  rcases List.mem_append.1 hy with hy | hy
  · exact h.2 y hy
  · exact k.2 y hy

theorem good_space (c : Int) (h : Pl.space c = true) (h0 : 0 ≤ c) (h1 : c ≤ 255) : Good [c] :=
  ⟨fun x => Pl.isE_space c x h, fun y hy => by simp at hy; subst hy; exact ⟨h0, h1⟩⟩

theorem bs_range (s : ByteArray) : ∀ x ∈ bs s, 0 ≤ x ∧ x ≤ 255 := by
  intro x hx
  simp only [bs, List.mem_map] at hx
  obtain ⟨b, _, rfl⟩ := hx
  have := b.toNat_lt
  omega

theorem good_line (t : List Int) (ht : ∀ x ∈ t, 0 ≤ x ∧ x ≤ 255) (c : Int) (hc : c = 10 ∨ c = 13) : Good ([45, 45] ++ without t ++ [c]) := by
  refine ⟨fun x => ?_, fun y hy => ?_⟩
  · have := Pl.isE_line (without t) x c (without_free t) hc
    simpa using this
  · simp only [List.mem_append, List.mem_cons, List.not_mem_nil, or_false] at hy
    rcases hy with ((h | h) | h) | h
    · omega
    · omega
    · exact ht y (List.mem_filter.1 h).1
    · omega

theorem opens_snoc (ts : List (List Int)) (t : List Int) : Pl.opens (ts ++ [t]) = Pl.opens ts ++ [47, 42] ++ Pl.harmless t := by
  induction ts with
  | nil => simp [Pl.opens]
  | cons a r ih => simp [Pl.opens, ih]

theorem closes_snoc (n : Nat) : Pl.closes (n + 1) = Pl.closes n ++ [42, 47] := by
  induction n with
  | zero => rfl
  | succ n ih =>
    have e : Pl.closes (n + 1 + 1) = 42 :: 47 :: Pl.closes (n + 1) := rfl
    have e2 : Pl.closes (n + 1) = 42 :: 47 :: Pl.closes n := rfl
    rw [e, ih]
    rw [ih] at e2
    rw [e2]
    exact congrArg (fun l : List Int => 42 :: 47 :: l) e2.symm

theorem closes_len (n : Nat) : (Pl.closes n).length = 2 * n := by
  induction n with
  | zero => rfl
  | succ n ih => simp only [Pl.closes, List.length_cons, ih]; omega

theorem opens_len (ts : List (List Int)) (m : Nat) (h : ∀ t ∈ ts, t.length ≤ m) : (Pl.opens ts).length ≤ ts.length * (2 * m + 2) := by
  induction ts with
  | nil => simp [Pl.opens]
  | cons t r ih =>
    have h1 := h t (by simp)
    have h2 := (Pl.harmless_length t).2
    have h3 := ih (fun x hx => h x (by simp [hx]))
    have e : (Pl.opens (t :: r)).length = 2 + (Pl.harmless t).length + (Pl.opens r).length := by simp [Pl.opens]; omega
    have e2 : (t :: r).length * (2 * m + 2) = r.length * (2 * m + 2) + (2 * m + 2) := by rw [List.length_cons]; exact Nat.succ_mul _ _
    rw [e, e2]
    omega

theorem opens_len4 (ts : List (List Int)) (m : Nat) (h4 : ts.length ≤ 4) (h : ∀ t ∈ ts, t.length ≤ m) : (Pl.opens ts).length ≤ 8 * m + 8 := by
  have h1 := opens_len ts m h
  have h2 : ts.length * (2 * m + 2) ≤ 4 * (2 * m + 2) := Nat.mul_le_mul_right _ h4
  omega

theorem harmless_mem (t : List Int) (y : Int) (h : y ∈ Pl.harmless t) : y ∈ t ∨ y = 32 := by
  induction t with
  | nil => simp [Pl.harmless] at h
  | cons c r ih =>
    simp only [Pl.harmless] at h
    split at h
    · simp only [List.mem_cons] at h
      rcases h with h | h | h
      · left; simp [h]
      · right; exact h
      · rcases ih h with h | h
        · left; simp [h]
        · right; exact h
    · simp only [List.mem_cons] at h
      rcases h with h | h
      · left; simp [h]
      · rcases ih h with h | h
        · left; simp [h]
        · right; exact h

theorem opens_range (ts : List (List Int)) (h : ∀ t ∈ ts, ∀ x ∈ t, 0 ≤ x ∧ x ≤ 255) : ∀ y ∈ Pl.opens ts, 0 ≤ y ∧ y ≤ 255 := by
  induction ts with
  | nil => simp [Pl.opens]
  | cons t r ih =>
    intro y hy
    simp only [Pl.opens, List.cons_append, List.mem_cons, List.mem_append] at hy
    rcases hy with h1 | h1 | h1 | h1
    · omega
    · omega
    · rcases harmless_mem t y h1 with h2 | h2
      · exact h t (by simp) y h2
      · omega
    · exact ih (fun x hx => h x (by simp [hx])) y h1

theorem closes_range (n : Nat) : ∀ y ∈ Pl.closes n, 0 ≤ y ∧ y ≤ 255 := by
  induction n with
  | zero => simp [Pl.closes]
  | succ n ih =>
    intro y hy
    simp only [Pl.closes, List.mem_cons] at hy
    rcases hy with h | h | h
    · omega
    · omega
    · exact ih y h

theorem good_block (ts : List (List Int)) (n : Nat) (hn : ts.length = n + 1) (h : ∀ t ∈ ts, ∀ x ∈ t, 0 ≤ x ∧ x ≤ 255) : Good (Pl.opens ts ++ Pl.closes (n + 1)) := by
  refine ⟨fun x => Pl.isE_block ts n hn x, fun y hy => ?_⟩
  rcases List.mem_append.1 hy with hy | hy
  · exact opens_range ts h y hy
  · exact closes_range _ y hy

/-- The sizes of the first k texts. -/
def sz (S : List ByteArray) : Nat → Nat
  | 0 => 0
  | k + 1 => sz S k + (S.getD k ByteArray.empty).size

theorem sz_mono (S : List ByteArray) {a b : Nat} (h : a ≤ b) : sz S a ≤ sz S b := by
  induction b with
  | zero => have : a = 0 := by omega
            subst this; exact Nat.le_refl _
  | succ b ih =>
    by_cases hab : a = b + 1
    · subst hab; exact Nat.le_refl _
    · have := ih (by omega); simp only [sz]; omega

/-- the part of a text -/
theorem part_le (j m d : Nat) (hd : 0 < d) (hj : j < d) : j * m / d ≤ (j + 1) * m / d ∧ (j + 1) * m / d ≤ m := by
  constructor
  · exact Nat.div_le_div_right (Nat.mul_le_mul_right _ (by omega))
  · have : (j + 1) * m ≤ d * m := Nat.mul_le_mul_right _ (by omega)
    calc (j + 1) * m / d ≤ d * m / d := Nat.div_le_div_right this
      _ = m := by rw [Nat.mul_comm, Nat.mul_div_cancel _ hd]
end Go.Proofs.Qxb6600826a
