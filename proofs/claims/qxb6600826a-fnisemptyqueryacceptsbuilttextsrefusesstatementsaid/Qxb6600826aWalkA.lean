/-
  THE WALKS: strings.IndexRune at a rune beyond ASCII, strings.IndexAny of a line end.
-/
import Derived.Test.Qxb6600826aShelf
import Derived.Test.Qxb6600826aPlain
import Derived.WalkKit
import Derived.WalkSpells
import Derived.WalkLawsBesides
import Derived.WalkMore
import Derived.BigQuiet
import Derived.Deep.QuietTactic
import Derived.Laws.RangeAny
import Derived.Laws.Runes
import Derived.Lib.OthersKept
namespace Go.Proofs.Qxb6600826a
open Go.RowKit
set_option linter.unusedSimpArgs false
set_option linter.unusedVariables false

theorem ret_int {k : IntKind} {a b : Int} (h : a = b) : Ending.returned (.int k a) = .returned (.int k b) := by rw [h]

/-- "\n\r" -/
abbrev nls : ByteArray := { data := #[10, 13] }

set_option maxRecDepth 100000 in
set_option maxHeartbeats 1000000 in
theorem indexRune_err (w : World) : Calls Try.prog 38 #[.string { data := #[10, 13] }, .int .i32 65533] w fun e w' => e = .returned (.int .i64 (-1)) ∧ Below w.heap.size w w' := by
  have n0 := fun ty => run_next_ascii (P := Try.prog) w nls 0 ty (by decide) (by decide)
  have n1 := fun ty => run_next_ascii (P := Try.prog) w nls 1 ty (by decide) (by decide)
  have n2 := fun ty => run_next_end (P := Try.prog) w nls 2 ty (by decide)
  go_enter Try.func38, Try.ntmps38
  go_wp2
  refine wp_loop_rounds 3 ?_
  rw [rounds_succ]
  go_wp2
  rw [rounds_succ]
  go_wp2
  rw [rounds_succ]
  go_wp2
  go_ret
  exact ⟨rfl, (Below.refl _ _).alloc (Nat.le_refl _) _⟩

theorem idx_empty (c : Int) (w : World) : Calls Try.prog 32 #[.string { data := #[] }, .int .u8 c] w fun e w' => e = .returned (.int .i64 (-1)) ∧ w' = w :=
  Try.strings_IndexByte _ _ _

theorem iter_below {B : Nat} {w0 w : World} (h : Below B w0 w) (hB : B ≤ w.heap.size) (s : ByteArray) (p : Nat) : Below B w0 (w.iter s p) := h.alloc hB _

set_option maxRecDepth 100000 in
set_option maxHeartbeats 1000000 in
theorem indexRune_valid (r : Int) (h0 : 128 ≤ r) (hr : r ≤ 2147483647) (hne : r ≠ 65533) (hv : validRune r = true) (w : World) :
    Calls Try.prog 38 #[.string { data := #[10, 13] }, .int .i32 r] w fun e w' => e = .returned (.int .i64 (-1)) ∧ Below w.heap.size w w' := by
  obtain ⟨f1, f2, f3⟩ := encode_facts r (by rw [validRune_eq]; exact hv) h0
  have hconv : ∀ w, (convert 21 9 (.int .i32 r)).run Try.prog w = .ok (.string (Utf8.encode r)) w := fun w => run_convert_int_string w 21 9 .i32 r (by rw [Try.underlying21]; rfl) Try.underlying9
  have hne' : (r == 65533) = false := beq_eq_false_iff_ne.2 hne
  have hv2 : Lib.validRune r = true := by
    have : Lib.validRune r = validRune r := by rfl
    rw [this]; exact hv
  generalize Utf8.encode r = rs at *
  clear hne hv
  by_cases h2 : rs.size = 2
  · obtain ⟨b0, b1, rfl⟩ : ∃ b0 b1, rs = { data := #[b0, b1] } := by
      obtain ⟨⟨l⟩⟩ := rs
      match l, h2 with
      | [a, b], _ => exact ⟨a, b, rfl⟩
    have hb1 : 128 ≤ (b1.toNat : Int) := by
      have := f3 (show (1 : Nat) < 2 by decide)
      exact_mod_cast this
    have hb1n : ((13 : Int) != (b1.toNat : Int)) = true := by rw [bne_iff_ne]; omega
    clear h2 f1 f2 f3
    have hb1m : ((({ data := #[10, 13] } : ByteArray)[1]'(show 1 < 2 by decide)).toNat : Int) ≠ ((({ data := #[b0, b1] } : ByteArray)[1]'(show 1 < 2 by decide)).toNat : Int) := bne_iff_ne.1 hb1n
    have hb1n' : (((({ data := #[10, 13] } : ByteArray)[1]'(show 1 < 2 by decide)).toNat : Int) != ((({ data := #[b0, b1] } : ByteArray)[1]'(show 1 < 2 by decide)).toNat : Int)) = true := hb1n
    clear hb1m
    have hwr : IntKind.i64.wrap 2 = 2 := by decide
    have hsl : ∀ w, (Instr.slice 9 (.string { data := #[10, 13] }) (some (.int .i64 2)) none none).run Try.prog w = .ok (.string { data := #[] }) w := fun _ => by kernel_rfl
    go_enter Try.func38, Try.ntmps38
    go_wp2_with (go_at_call 43; refine (Try.utf8_ValidRune _ _).mono ?_; rintro e w' ⟨rfl, rfl⟩; rw [hv2])
    go_step3
    go_wp2
    refine wp_loop_rounds 1 ?_
    rw [rounds_succ]
    go_wp2
    go_step3
    go_wp2
    go_quiet (fail)
    generalize hw2 : w'.drewN nq = w2
    have HB2 : Hid (Below w'.heap.size w' w2) := by rw [← hw2]; exact below_drewN (Below.refl _ _) _
    clear hw2
    go_wp2
    go_quiet ((go_at_call 32; exact Calls.quiet_of_same (idx_empty _ _)))
    go_wp2
    rw [Exit.noGoto_ret]
    go_wp2
    rw [Exit.noGoto_ret]
    go_ret
    exact ⟨rfl, below_drewN HB2.out _⟩
  · have h3 : 3 ≤ rs.size := by omega
    clear h2 f3
    go_enter Try.func38, Try.ntmps38
    go_wp2_with (go_at_call 43; refine (Try.utf8_ValidRune _ _).mono ?_; rintro e w' ⟨rfl, rfl⟩; rw [hv2])
    go_step3
    go_wp2
    refine wp_loop_rounds 1 ?_
    rw [rounds_succ]
    go_wp2
    rw [Exit.noGoto_ret]
    go_ret
    exact ⟨rfl, Below.refl _ _⟩

set_option maxRecDepth 100000 in
set_option maxHeartbeats 1000000 in
theorem indexRune_bad (r : Int) (h0 : 128 ≤ r) (hr : r ≤ 2147483647) (hne : r ≠ 65533) (hv : validRune r = false) (w : World) :
    Calls Try.prog 38 #[.string { data := #[10, 13] }, .int .i32 r] w fun e w' => e = .returned (.int .i64 (-1)) ∧ Below w.heap.size w w' := by
  have hne' : (r == 65533) = false := beq_eq_false_iff_ne.2 hne
  have hv2 : Lib.validRune r = false := by
    have : Lib.validRune r = validRune r := by rfl
    rw [this]; exact hv
  clear hne hv
  go_enter Try.func38, Try.ntmps38
  go_wp2_with (go_at_call 43; refine (Try.utf8_ValidRune _ _).mono ?_; rintro e w' ⟨rfl, rfl⟩; rw [hv2])
  go_ret
  exact ⟨rfl, Below.refl _ _⟩

theorem indexRune_high (r : Int) (h0 : 128 ≤ r) (hr : r ≤ 2147483647) (w : World) :
    Calls Try.prog 38 #[.string { data := #[10, 13] }, .int .i32 r] w fun e w' => e = .returned (.int .i64 (-1)) ∧ Below w.heap.size w w' := by
  by_cases h : r = 65533
  · subst h; exact indexRune_err w
  · cases hv : validRune r
    · exact indexRune_bad r h0 hr h hv w
    · exact indexRune_valid r h0 hr h hv w

/-- A rune that begins beyond ASCII: every byte of it lies beyond ASCII. -/
theorem decode_bytes (s : ByteArray) (pos : Nat) (h : pos < s.size) (ha : 128 ≤ (s[pos]'h).toNat) : ∀ k, k < (Utf8.decode s pos).2 → 128 ≤ (s.get! (pos + k)).toNat := by
  have e0 : s.get! (pos + 0) = s[pos]'h := get_at s pos h
  have hn : ¬ (s.get! (pos + 0)).toNat < 128 := by rw [e0]; omega
  have h0 : 128 ≤ (s.get! (pos + 0)).toNat := by rw [e0]; exact ha
  intro k hk
  simp only [Utf8.decode, hn, if_false] at hk
  have hcase : ∀ m, k < m → (∀ i, i < m → 128 ≤ (s.get! (pos + i)).toNat) → 128 ≤ (s.get! (pos + k)).toNat := fun m hm hi => hi k hm
  split at hk
  · rename_i hc
    simp at hc
    split at hk
    · refine hcase 2 hk fun i hi => ?_
      match i, hi with
      | 0, _ => exact h0
      | 1, _ => omega
    · refine hcase 1 hk fun i hi => ?_
      match i, hi with
      | 0, _ => exact h0
  · split at hk
    · rename_i hc
      simp at hc
      split at hk
      · refine hcase 3 hk fun i hi => ?_
        match i, hi with
        | 0, _ => exact h0
        | 1, _ => omega
        | 2, _ => omega
      · refine hcase 1 hk fun i hi => ?_
        match i, hi with
        | 0, _ => exact h0
    · split at hk
      · rename_i hc
        simp at hc
        split at hk
        · refine hcase 4 hk fun i hi => ?_
          match i, hi with
          | 0, _ => exact h0
          | 1, _ => omega
          | 2, _ => omega
          | 3, _ => omega
        · refine hcase 1 hk fun i hi => ?_
          match i, hi with
          | 0, _ => exact h0
      · refine hcase 1 hk fun i hi => ?_
        match i, hi with
        | 0, _ => exact h0

theorem noAny_rune {s : ByteArray} {pos : Nat} (h : pos < s.size) (ha : 128 ≤ (s[pos]'h).toNat) (hn : Lib.NoAny s.data.toList [10, 13] pos) : Lib.NoAny s.data.toList [10, 13] (pos + (Utf8.decode s pos).2) := by
  intro j b hj hb
  by_cases hjp : j < pos
  · exact hn j b hjp hb
  · have h1 := decode_bytes s pos h ha (j - pos) (by omega)
    rw [show pos + (j - pos) = j from by omega] at h1
    have hjl : j < s.size := by
      have := (List.getElem?_eq_some_iff.1 hb).1
      rw [← Lib.size_eq] at this
      exact this
    have h2 : s.get! j = b := by
      have e1 : s.get! (j + 0) = s[j]'hjl := get_at s j hjl
      have e2 := Lib.data_getElem? s j hjl
      rw [hb] at e2
      exact e1.trans (Option.some.inj e2).symm
    rw [h2] at h1
    have h3 : b ≠ 10 ∧ b ≠ 13 := by
      constructor
      · intro h; subst h; simp at h1
      · intro h; subst h; simp at h1
    simp [h3.1, h3.2]
end Go.Proofs.Qxb6600826a
