/-
  THE WALK: zzMacWant.
-/
import Derived.Test.Qxb6601124aDoorWalkD
import Derived.Deep.RegionHeld3
namespace Go.Proofs.Qxb6601124aDoor
open Go.RowKit
set_option linter.unusedSimpArgs false
set_option linter.unusedVariables false

theorem ten_tag (x f : ByteArray) (t : ByteArray) (m : Int) (hx : x = Pl.mk (Lib.itoa m)) (ht : t.data.toList = [109, 97, 99, 111, 115, 120, 95, 49, 48, 95] ++ x.data.toList ++ [95] ++ f.data.toList) : t = Pl.tag (Pl.ver10 m) f := by
  apply Pl.eq_mk
  rw [ht, hx, Pl.mk_bytes]
  simp [Pl.ver10]

theorem digits_len : ∀ (k u : Nat), u < 10 ^ (k + 1) → (Lib.decDigits u).length ≤ k + 1
  | 0, u, h => by
    rw [Lib.decDigits, dif_pos (by simpa using h)]
    simp
  | k + 1, u, h => by
    rw [Lib.decDigits]
    split
    · simp
    · rw [List.length_append]
      have := digits_len k (u / 10) (by rw [Nat.pow_succ] at h; omega)
      simp; omega

theorem itoa_size (p : Nat) (h : p < 10000000) : (Pl.mk (Lib.itoa (p : Int))).size ≤ 7 := by
  rw [Pl.mk_size]
  unfold Lib.itoa
  rw [if_neg (by omega)]
  exact digits_len 6 _ (by simpa using h)

theorem below_drew {w w' : World} (h : Below w.drew.heap.size w.drew w') : Below w.heap.size w w' := Below.trans (Below.drew (Below.refl _ _)) h

set_option maxHeartbeats 2000000 in
set_option maxRecDepth 100000 in
theorem want10 (i N k : Nat) (fs : List ByteArray) (hk : fs.length = k) (hk0 : 0 < k) (a : ByteArray) (minor : Int) (w : World) (hrow : RowAt w N fs) (hm : minor < 10000000) (hi : ((i / k : Nat) : Int) < minor) (hiN : i ≤ 1000000000) (hk9 : k ≤ 6) (hsz : (fs.getD (i % k) ByteArray.empty).size ≤ 1048576) :
    Calls Tryd.prog 31 #[.int .i64 (i : Int), .string a, .slice (some ⟨N, 0, none⟩) k k, .int .i64 10, .int .i64 minor] w fun e w' => e = .returned (.string (Pl.tag (Pl.ver10 (minor - ((i / k : Nat) : Int))) (fs.getD (i % k) ByteArray.empty))) ∧ Below w.heap.size w w' := by
  obtain ⟨q, hq⟩ : ∃ q, q = i / k := ⟨_, rfl⟩
  obtain ⟨r, hr⟩ : ∃ r, r = i % k := ⟨_, rfl⟩
  have hrk : r < k := by rw [hr]; exact Nat.mod_lt _ hk0
  have e1 : (i : Int) / (k : Int) = (q : Int) := by rw [hq]; exact (Int.natCast_ediv i k).symm ▸ rfl
  have e2 : (i : Int).tmod (k : Int) = (r : Int) := by rw [hr]; exact (Int.ofNat_tmod i k).symm
  rw [← hq] at hi ⊢
  rw [← hr] at hsz ⊢
  obtain ⟨f, hf⟩ : ∃ f, f = fs.getD r ByteArray.empty := ⟨_, rfl⟩
  have hc : w.cell? ⟨N, r, none⟩ = some (.string f) := by rw [hf]; exact hrow.2 r (by omega)
  rw [← hf] at hsz ⊢
  have hqi : q ≤ 1000000000 := by rw [hq]; exact Nat.le_trans (Nat.div_le_self _ _) hiN
  have hN := hrow.1
  clear hq hr hf hk
  obtain ⟨p, hp⟩ : ∃ p : Nat, minor - (q : Int) = (p : Int) := ⟨(minor - q).toNat, by omega⟩
  have hp0 : 0 < p := by omega
  have hp1 : p < 10000000 := by omega
  rw [hp]
  have wq : IntKind.i64.wrap (q : Int) = (q : Int) := wrap_small _ (by omega) (by omega)
  have wp : IntKind.i64.wrap (p : Int) = (p : Int) := wrap_small _ (by omega) (by omega)
  have wr' : IntKind.i64.wrap (r : Int) = (r : Int) := wrap_small _ (by omega) (by omega)
  have hd0 : ¬ k = 0 := by omega
  have g1 : (0 : Int) ≤ (r : Int) := by omega
  have g2 : (r : Int) < (k : Int) := by omega
  have hps := itoa_size p hp1
  have n1 : ¬ (9223372036854775807 < 10 + (Pl.mk (Lib.itoa (p : Int))).size) := by omega
  have n2 : ¬ (9223372036854775807 < 10 + (Pl.mk (Lib.itoa (p : Int))).size + 1) := by omega
  have n3 : ¬ (9223372036854775807 < 10 + (Pl.mk (Lib.itoa (p : Int))).size + 1 + f.size) := by omega
  have HC : Hid (w.cell? ⟨N, r, none⟩ = some (.string f)) := hc
  clear hrow
  go_enter Tryd.func31, Tryd.ntmps31
  go_wp2
  go_region_held3 (fun w' => w'.cell? ⟨N, r, none⟩ = some (.string f)) (first | exact hc | exact (HB1.out.cell (p := ⟨N, r, none⟩) hN).trans HC.out) ((go_at_call 43; (refine (itoa_any p _ hp0 hp1).mono ?_); rintro e w1 ⟨rfl, hb1⟩; have HB1 : Hid (Below w.heap.size w w1) := below_drew hb1; clear hb1))
  go_wp2
  go_ret
  refine ⟨ret_str ?_, HB1.out⟩
  exact ten_tag _ _ _ _ rfl (by simp [ByteArray.data_append])

theorem eleven_tag (x f : ByteArray) (t : ByteArray) (m : Int) (hx : x = Pl.mk (Lib.itoa m)) (ht : t.data.toList = [109, 97, 99, 111, 115, 120, 95] ++ x.data.toList ++ [95, 48, 95] ++ f.data.toList) : t = Pl.tag (Pl.ver11 m) f := by
  apply Pl.eq_mk
  rw [ht, hx, Pl.mk_bytes]
  simp [Pl.ver11]

set_option maxHeartbeats 2000000 in
set_option maxRecDepth 100000 in
theorem want11 (i N k : Nat) (fs : List ByteArray) (hk : fs.length = k) (hk0 : 0 < k) (a : ByteArray) (major minor : Int) (w : World) (hrow : RowAt w N fs) (hm0 : 10 < major) (hm : major < 10000000) (hi : ((i / k : Nat) : Int) < major) (hiN : i < (major - 10).toNat * k) (hk9 : k ≤ 6) (hsz : (fs.getD (i % k) ByteArray.empty).size ≤ 1048576) :
    Calls Tryd.prog 31 #[.int .i64 (i : Int), .string a, .slice (some ⟨N, 0, none⟩) k k, .int .i64 major, .int .i64 minor] w fun e w' => e = .returned (.string (Pl.tag (Pl.ver11 (major - ((i / k : Nat) : Int))) (fs.getD (i % k) ByteArray.empty))) ∧ Below w.heap.size w w' := by
  obtain ⟨q, hq⟩ : ∃ q, q = i / k := ⟨_, rfl⟩
  obtain ⟨r, hr⟩ : ∃ r, r = i % k := ⟨_, rfl⟩
  have hrk : r < k := by rw [hr]; exact Nat.mod_lt _ hk0
  have e1 : (i : Int) / (k : Int) = (q : Int) := by rw [hq]; exact (Int.natCast_ediv i k).symm ▸ rfl
  have e2 : (i : Int).tmod (k : Int) = (r : Int) := by rw [hr]; exact (Int.ofNat_tmod i k).symm
  rw [← hq] at hi ⊢
  rw [← hr] at hsz ⊢
  obtain ⟨f, hf⟩ : ∃ f, f = fs.getD r ByteArray.empty := ⟨_, rfl⟩
  have hc : w.cell? ⟨N, r, none⟩ = some (.string f) := by rw [hf]; exact hrow.2 r (by omega)
  rw [← hf] at hsz ⊢
  obtain ⟨A, hA⟩ : ∃ A, A = (major - 10).toNat * k := ⟨_, rfl⟩
  have hAb : A ≤ 10000000 * 6 := by rw [hA]; exact Nat.mul_le_mul (by omega) hk9
  have e3 : (major - 10) * (k : Int) = (A : Int) := by
    rw [hA, Int.natCast_mul, Int.toNat_of_nonneg (by omega)]
  rw [← hA] at hiN
  have hqi : q ≤ 60000000 := by rw [hq]; exact Nat.le_trans (Nat.div_le_self _ _) (by omega)
  have hN := hrow.1
  clear hq hr hf hk hA
  obtain ⟨p, hp⟩ : ∃ p : Nat, major - (q : Int) = (p : Int) := ⟨(major - q).toNat, by omega⟩
  have hp0 : 0 < p := by omega
  have hp1 : p < 10000000 := by omega
  rw [hp]
  have wq : IntKind.i64.wrap (q : Int) = (q : Int) := wrap_small _ (by omega) (by omega)
  have wp : IntKind.i64.wrap (p : Int) = (p : Int) := wrap_small _ (by omega) (by omega)
  have wr' : IntKind.i64.wrap (r : Int) = (r : Int) := wrap_small _ (by omega) (by omega)
  have wA : IntKind.i64.wrap (A : Int) = (A : Int) := wrap_small _ (by omega) (by omega)
  have hd0 : ¬ k = 0 := by omega
  have g1 : (0 : Int) ≤ (r : Int) := by omega
  have g2 : (r : Int) < (k : Int) := by omega
  have hps := itoa_size p hp1
  have n1 : ¬ (9223372036854775807 < 7 + (Pl.mk (Lib.itoa (p : Int))).size) := by omega
  have n2 : ¬ (9223372036854775807 < 7 + (Pl.mk (Lib.itoa (p : Int))).size + 3) := by omega
  have n3 : ¬ (9223372036854775807 < 7 + (Pl.mk (Lib.itoa (p : Int))).size + 3 + f.size) := by omega
  have h10 : (major == 10) = false := by rw [beq_eq_false_iff_ne]; omega
  have hneg : ¬ (major - 10 < 0) := by omega
  have HC : Hid (w.cell? ⟨N, r, none⟩ = some (.string f)) := hc
  clear hrow
  go_enter Tryd.func31, Tryd.ntmps31
  go_wp2
  go_region_held3 (fun w' => w'.cell? ⟨N, r, none⟩ = some (.string f)) (first | exact hc | exact (HB1.out.cell (p := ⟨N, r, none⟩) hN).trans HC.out) ((go_at_call 43; (refine (itoa_any p _ hp0 hp1).mono ?_); rintro e w1 ⟨rfl, hb1⟩; have HB1 : Hid (Below w.heap.size w w1) := below_drew hb1; clear hb1))
  go_wp2
  go_ret
  refine ⟨ret_str ?_, HB1.out⟩
  exact eleven_tag _ _ _ _ rfl (by simp [ByteArray.data_append])

theorem below_allocdrew {w w' : World} {o : Obj} (h : Below (w.alloc o).drew.heap.size (w.alloc o).drew w') : Below w.heap.size w w' :=
  Below.trans (Below.drew ((Below.refl _ _).alloc (Nat.le_refl _) o)) (h.mono (by show w.heap.size ≤ (w.heap.push o).size; simp))

set_option maxHeartbeats 1000000 in
set_option maxRecDepth 100000 in
/-- On x86_64 the last thirteen versions come in the same formats. -/
theorem wantLowX (i N k : Nat) (fs : List ByteArray) (hk : fs.length = k) (hk0 : 0 < k) (a : ByteArray) (haX : (a.toList == [120, 56, 54, 95, 54, 52]) = true) (major minor : Int) (w : World) (hrow : RowAt w N fs) (hmn : major ≠ 10) (hml : -10000000 ≤ major) (hm : major < 10000000) (j : Nat) (hj : i = (major - 10).toNat * k + j) (hj13 : j / k < 13) (hiN : j ≤ 1000000000) (hk9 : k ≤ 6) (hsz : (fs.getD (j % k) ByteArray.empty).size ≤ 1048576) :
    Calls Tryd.prog 31 #[.int .i64 (i : Int), .string a, .slice (some ⟨N, 0, none⟩) k k, .int .i64 major, .int .i64 minor] w fun e w' => e = .returned (.string (Pl.tag (Pl.ver10 (16 - ((j / k : Nat) : Int))) (fs.getD (j % k) ByteArray.empty))) ∧ Below w.heap.size w w' := by
  obtain ⟨q, hq⟩ : ∃ q, q = j / k := ⟨_, rfl⟩
  obtain ⟨r, hr⟩ : ∃ r, r = j % k := ⟨_, rfl⟩
  have hrk : r < k := by rw [hr]; exact Nat.mod_lt _ hk0
  have e1 : (j : Int) / (k : Int) = (q : Int) := by rw [hq]; exact (Int.natCast_ediv j k).symm ▸ rfl
  have e2 : (j : Int).tmod (k : Int) = (r : Int) := by rw [hr]; exact (Int.ofNat_tmod j k).symm
  rw [← hq] at hj13 ⊢
  rw [← hr] at hsz ⊢
  obtain ⟨f, hf⟩ : ∃ f, f = fs.getD r ByteArray.empty := ⟨_, rfl⟩
  have hc : w.cell? ⟨N, r, none⟩ = some (.string f) := by rw [hf]; exact hrow.2 r (by omega)
  rw [← hf] at hsz ⊢
  obtain ⟨A, hA⟩ : ∃ A, A = (major - 10).toNat * k := ⟨_, rfl⟩
  have hAb : A ≤ 10000000 * 6 := by rw [hA]; exact Nat.mul_le_mul (by omega) hk9
  have hAc : (major - 10 < 0 ∧ A = 0) ∨ (¬ major - 10 < 0 ∧ (major - 10) * (k : Int) = (A : Int)) := by
    by_cases hneg : major - 10 < 0
    · left; refine ⟨hneg, ?_⟩
      rw [hA, show (major - 10).toNat = 0 by omega, Nat.zero_mul]
    · right; refine ⟨hneg, ?_⟩
      rw [hA, Int.natCast_mul, Int.toNat_of_nonneg (by omega)]
  rw [← hA] at hj
  have hN := hrow.1
  clear hq hr hf hk hA
  obtain ⟨p, hp⟩ : ∃ p : Nat, (16 : Int) - (q : Int) = (p : Int) := ⟨16 - q, by omega⟩
  have hp0 : 0 < p := by omega
  have hp1 : p < 10000000 := by omega
  rw [hp]
  have wq : IntKind.i64.wrap (q : Int) = (q : Int) := wrap_small _ (by omega) (by omega)
  have wp : IntKind.i64.wrap (p : Int) = (p : Int) := wrap_small _ (by omega) (by omega)
  have wr' : IntKind.i64.wrap (r : Int) = (r : Int) := wrap_small _ (by omega) (by omega)
  have wA : IntKind.i64.wrap (A : Int) = (A : Int) := wrap_small _ (by omega) (by omega)
  have wj : IntKind.i64.wrap (j : Int) = (j : Int) := wrap_small _ (by omega) (by omega)
  have hd0 : ¬ k = 0 := by omega
  have g1 : (0 : Int) ≤ (r : Int) := by omega
  have g2 : (r : Int) < (k : Int) := by omega
  have hps := itoa_size p hp1
  have n1 : ¬ (9223372036854775807 < 10 + (Pl.mk (Lib.itoa (p : Int))).size) := by omega
  have n2 : ¬ (9223372036854775807 < 10 + (Pl.mk (Lib.itoa (p : Int))).size + 1) := by omega
  have n3 : ¬ (9223372036854775807 < 10 + (Pl.mk (Lib.itoa (p : Int))).size + 1 + f.size) := by omega
  have h10 : (major == 10) = false := by rw [beq_eq_false_iff_ne]; exact hmn
  have HC : Hid (w.cell? ⟨N, r, none⟩ = some (.string f)) := hc
  have ij : (i : Int) - (A : Int) = (j : Int) := by omega
  have iA : ¬ ((i : Int) < (A : Int)) := by omega
  clear hrow
  rcases hAc with ⟨hneg, hA0⟩ | ⟨hneg, e3⟩
  · have i0 : ¬ ((j : Int) < 0) := by omega
    obtain rfl : i = j := by omega
    clear hj ij iA hA0
    go_enter Tryd.func31, Tryd.ntmps31
    go_wp2
    go_region_held3 (fun w' => w'.cell? ⟨N, r, none⟩ = some (.string f)) (first | exact hc | exact (HB1.out.cell (p := ⟨N, r, none⟩) hN).trans HC.out) ((go_at_call 43; (refine (itoa_any p _ hp0 hp1).mono ?_); rintro e w1 ⟨rfl, hb1⟩; have HB1 : Hid (Below w.heap.size w w1) := below_drew hb1; clear hb1))
    go_wp2
    go_ret
    refine ⟨ret_str ?_, HB1.out⟩
    exact ten_tag _ _ _ _ rfl (by simp [ByteArray.data_append])
  · have hib : i ≤ 2000000000 := by omega
    clear hj
    go_enter Tryd.func31, Tryd.ntmps31
    go_wp2
    go_region_held3 (fun w' => w'.cell? ⟨N, r, none⟩ = some (.string f)) (first | exact hc | exact (HB1.out.cell (p := ⟨N, r, none⟩) hN).trans HC.out) ((go_at_call 43; (refine (itoa_any p _ hp0 hp1).mono ?_); rintro e w1 ⟨rfl, hb1⟩; have HB1 : Hid (Below w.heap.size w w1) := below_drew hb1; clear hb1))
    go_wp2
    go_ret
    refine ⟨ret_str ?_, HB1.out⟩
    exact ten_tag _ _ _ _ rfl (by simp [ByteArray.data_append])

set_option maxHeartbeats 1000000 in
set_option maxRecDepth 100000 in
/-- Elsewhere the last thirteen versions come in one format. -/
theorem wantLowO (i N k : Nat) (fs : List ByteArray) (hk : fs.length = k) (hk0 : 0 < k) (a : ByteArray) (haX : (a.toList == [120, 56, 54, 95, 54, 52]) = false) (major minor : Int) (w : World) (hrow : RowAt w N fs) (hmn : major ≠ 10) (hml : -10000000 ≤ major) (hm : major < 10000000) (j : Nat) (hj : i = (major - 10).toNat * k + j) (hj13 : j < 13) (hk9 : k ≤ 6) :
    Calls Tryd.prog 31 #[.int .i64 (i : Int), .string a, .slice (some ⟨N, 0, none⟩) k k, .int .i64 major, .int .i64 minor] w fun e w' => e = .returned (.string (Pl.tag (Pl.ver10 (16 - (j : Int))) Pl.tU2)) ∧ Below w.heap.size w w' := by
  obtain ⟨A, hA⟩ : ∃ A, A = (major - 10).toNat * k := ⟨_, rfl⟩
  have hAb : A ≤ 10000000 * 6 := by rw [hA]; exact Nat.mul_le_mul (by omega) hk9
  have hAc : (major - 10 < 0 ∧ A = 0) ∨ (¬ major - 10 < 0 ∧ (major - 10) * (k : Int) = (A : Int)) := by
    by_cases hneg : major - 10 < 0
    · left; refine ⟨hneg, ?_⟩
      rw [hA, show (major - 10).toNat = 0 by omega, Nat.zero_mul]
    · right; refine ⟨hneg, ?_⟩
      rw [hA, Int.natCast_mul, Int.toNat_of_nonneg (by omega)]
  rw [← hA] at hj
  have hN := hrow.1
  clear hk hA
  obtain ⟨p, hp⟩ : ∃ p : Nat, (16 : Int) - (j : Int) = (p : Int) := ⟨16 - j, by omega⟩
  have hp0 : 0 < p := by omega
  have hp1 : p < 10000000 := by omega
  rw [hp]
  have wp : IntKind.i64.wrap (p : Int) = (p : Int) := wrap_small _ (by omega) (by omega)
  have wA : IntKind.i64.wrap (A : Int) = (A : Int) := wrap_small _ (by omega) (by omega)
  have wj : IntKind.i64.wrap (j : Int) = (j : Int) := wrap_small _ (by omega) (by omega)
  have hd0 : ¬ k = 0 := by omega
  have hps := itoa_size p hp1
  have n1 : ¬ (9223372036854775807 < 10 + (Pl.mk (Lib.itoa (p : Int))).size) := by omega
  have n2 : ¬ (9223372036854775807 < 10 + (Pl.mk (Lib.itoa (p : Int))).size + 1) := by omega
  have n3 : ¬ (9223372036854775807 < 10 + (Pl.mk (Lib.itoa (p : Int))).size + 1 + Pl.tU2.size) := by rw [show Pl.tU2.size = 10 from rfl]; omega
  have h10 : (major == 10) = false := by rw [beq_eq_false_iff_ne]; exact hmn
  have hc : (w.alloc (.cells #[.string Pl.tU2] 9)).cell? ⟨w.heap.size, 0, none⟩ = some (.string Pl.tU2) := (rowAt_alloc w [Pl.tU2] _ 9 rfl).2 0 (by simp)
  have hN2 : w.heap.size < (w.alloc (.cells #[.string Pl.tU2] 9)).heap.size := (rowAt_alloc w [Pl.tU2] _ 9 rfl).1
  have HC : Hid ((w.alloc (.cells #[.string Pl.tU2] 9)).cell? ⟨w.heap.size, 0, none⟩ = some (.string Pl.tU2)) := hc
  have ij : (i : Int) - (A : Int) = (j : Int) := by omega
  have iA : ¬ ((i : Int) < (A : Int)) := by omega
  clear hrow
  rcases hAc with ⟨hneg, hA0⟩ | ⟨hneg, e3⟩
  · have i0 : ¬ ((j : Int) < 0) := by omega
    obtain rfl : i = j := by omega
    clear hj ij iA hA0
    go_enter Tryd.func31, Tryd.ntmps31
    go_wp2
    go_region_held3 (fun w' => w'.cell? ⟨w.heap.size, 0, none⟩ = some (.string Pl.tU2)) (first | exact hc | exact (HB2.out.cell (p := ⟨w.heap.size, 0, none⟩) hN2).trans HC.out) ((go_at_call 43; (refine (itoa_any p _ hp0 hp1).mono ?_); rintro e w1 ⟨rfl, hb1⟩; have HB1 : Hid (Below w.heap.size w w1) := below_allocdrew hb1; have HB2 : Hid (Below (w.alloc (.cells #[.string Pl.tU2] 9)).heap.size (w.alloc (.cells #[.string Pl.tU2] 9)) w1) := below_drew hb1; clear hb1))
    go_wp2
    go_ret
    refine ⟨ret_str ?_, HB1.out⟩
    exact ten_tag _ _ _ _ rfl (by simp [ByteArray.data_append])
  · have hib : i ≤ 2000000000 := by omega
    clear hj
    go_enter Tryd.func31, Tryd.ntmps31
    go_wp2
    go_region_held3 (fun w' => w'.cell? ⟨w.heap.size, 0, none⟩ = some (.string Pl.tU2)) (first | exact hc | exact (HB2.out.cell (p := ⟨w.heap.size, 0, none⟩) hN2).trans HC.out) ((go_at_call 43; (refine (itoa_any p _ hp0 hp1).mono ?_); rintro e w1 ⟨rfl, hb1⟩; have HB1 : Hid (Below w.heap.size w w1) := below_allocdrew hb1; have HB2 : Hid (Below (w.alloc (.cells #[.string Pl.tU2] 9)).heap.size (w.alloc (.cells #[.string Pl.tU2] 9)) w1) := below_drew hb1; clear hb1))
    go_wp2
    go_ret
    refine ⟨ret_str ?_, HB1.out⟩
    exact ten_tag _ _ _ _ rfl (by simp [ByteArray.data_append])
end Go.Proofs.Qxb6601124aDoor
