/-
  THE WALKS: zzArch, zzMacParse, zzMacFormats, zzMacCount, zzMacUnfoldFits.
-/
import Derived.Test.Qxb6601124aDoorWalkB
namespace Go.Proofs.Qxb6601124aDoor
open Go.RowKit
set_option linter.unusedSimpArgs false
set_option linter.unusedVariables false

def arch (m : ByteArray) (h : Bool) : ByteArray := if h = true then m else ByteArray.empty

theorem arch_any (m : ByteArray) (h : Bool) (w : World) : Calls Tryd.prog 24 #[.string m, .bool h] w fun e w' => e = .returned (.string (arch m h)) ∧ w' = w := by
  cases h with
  | true =>
    go_enter Tryd.func24, Tryd.ntmps24
    go_wp2
    go_ret
    exact ⟨rfl, rfl⟩
  | false =>
    go_enter Tryd.func24, Tryd.ntmps24
    go_wp2
    go_ret
    exact ⟨rfl, rfl⟩

theorem results_tmp4 {fn : Func} {t u v x : Tmp} (h : fn.results = #[.tmp t, .tmp u, .tmp v, .tmp x]) (tmps : Array Value) (P : Program) (w : World) :
    (results fn tmps).run P w = .ok (.tuple #[tmps.getD t undef, tmps.getD u undef, tmps.getD v undef, tmps.getD x undef]) w := by
  simp [results, h]

def ParseIs (l : List UInt8) (e : Ending) : Prop := e = .returned (.tuple #[.int .i64 (Pl.pMaj l), .bool (Pl.pOk l), .int .i64 (Pl.pMin l), .bool (Pl.pThrough l)])

theorem parseIs {l : List UInt8} {a c : Int} {b d : Bool} (h1 : Pl.pMaj l = a) (h2 : Pl.pOk l = b) (h3 : Pl.pMin l = c) (h4 : Pl.pThrough l = d) : ParseIs l (.returned (.tuple #[.int .i64 a, .bool b, .int .i64 c, .bool d])) := by
  unfold ParseIs; rw [h1, h2, h3, h4]

theorem smallIs_of {l m : List UInt8} {e : Ending} (h : SmallIs l e) (k : l = m) : SmallIs m e := k ▸ h

theorem small_sub {s : ByteArray} {l : List UInt8} {ok big : Bool} {v : Int} (E : s.data.toList = l) (h1 : Pl.sOk l = ok) (h2 : Pl.sBig l = big) (h3 : Pl.sVal l = v) {e : Ending} (h : SmallIs s.data.toList e) : e = .returned (.tuple #[.int .i64 v, .bool ok, .bool big]) := by
  rw [SmallIs, E, h1, h2, h3] at h
  exact h

set_option maxHeartbeats 2000000 in
set_option maxRecDepth 100000 in
theorem parse_any (s : ByteArray) (w : World) (hs : s.size ≤ 1048576) :
    Calls Tryd.prog 26 #[.string s] w fun e w' => ParseIs s.data.toList e ∧ Below w.heap.size w w' := by
  have l1 := Pl.cutL_len s.data.toList
  have l2 := Pl.cutL_len (Pl.cutL s.data.toList).2
  rw [by_len] at l1
  have S1 : Hid ((Pl.mk (Pl.cutL s.data.toList).1).size ≤ 1048576) := by show _ ≤ _; rw [Pl.mk_size]; omega
  have S2 : Hid ((Pl.mk (Pl.cutL s.data.toList).2).size ≤ 1048576) := by show _ ≤ _; rw [Pl.mk_size]; omega
  have S3 : Hid ((Pl.mk (Pl.cutL (Pl.mk (Pl.cutL s.data.toList).2).data.toList).1).size ≤ 1048576) := by show _ ≤ _; rw [Pl.mk_bytes, Pl.mk_size]; omega
  have E1 : Hid ((Pl.mk (Pl.cutL s.data.toList).1).data.toList = Pl.majL s.data.toList) := by show _ = _; rw [Pl.mk_bytes]; rfl
  have E2 : Hid ((Pl.mk (Pl.cutL (Pl.mk (Pl.cutL s.data.toList).2).data.toList).1).data.toList = Pl.minL s.data.toList) := by show _ = _; rw [Pl.mk_bytes, Pl.mk_bytes]; rfl
  clear l1 l2
  obtain ⟨okM, H1⟩ : ∃ b, Hid (Pl.sOk (Pl.majL s.data.toList) = b) := ⟨_, rfl⟩
  obtain ⟨bigM, H2⟩ : ∃ b, Hid (Pl.sBig (Pl.majL s.data.toList) = b) := ⟨_, rfl⟩
  obtain ⟨vM, H3⟩ : ∃ b, Hid (Pl.sVal (Pl.majL s.data.toList) = b) := ⟨_, rfl⟩
  obtain ⟨okm, H4⟩ : ∃ b, Hid (Pl.sOk (Pl.minL s.data.toList) = b) := ⟨_, rfl⟩
  obtain ⟨bigm, H5⟩ : ∃ b, Hid (Pl.sBig (Pl.minL s.data.toList) = b) := ⟨_, rfl⟩
  obtain ⟨vm, H6⟩ : ∃ b, Hid (Pl.sVal (Pl.minL s.data.toList) = b) := ⟨_, rfl⟩
  have key : okM = false ∨ (okM = true ∧ bigM = true) ∨ (okM = true ∧ bigM = false ∧ (vM == 10) = true ∧ bigm = true) ∨ (okM = true ∧ bigM = false ∧ (vM == 10) = true ∧ bigm = false ∧ okm = false) ∨ (okM = true ∧ bigM = false ∧ (vM == 10) = true ∧ bigm = false ∧ okm = true) ∨
      (okM = true ∧ bigM = false ∧ (vM == 10) = false ∧ okm = false) ∨ (okM = true ∧ bigM = false ∧ (vM == 10) = false ∧ okm = true) := by
    cases okM <;> cases bigM <;> cases okm <;> cases bigm <;> cases (vM == 10) <;> decide
  rcases key with rfl | ⟨rfl, rfl⟩ | ⟨rfl, rfl, h10, rfl⟩ | ⟨rfl, rfl, h10, rfl, rfl⟩ | ⟨rfl, rfl, h10, rfl, rfl⟩ | ⟨rfl, rfl, h10, rfl⟩ | ⟨rfl, rfl, h10, rfl⟩
  all_goals
    go_enter Tryd.func26, Tryd.ntmps26
    go_wp2_with fail
    go_at_call 40
    refine (zzCut_any s _ hs).mono ?_
    rintro e w1 ⟨rfl, hb1⟩
    have HB1 := show Hid _ from hb1
    clear hb1
    go_wp2_with fail
    go_at_call 40
    refine (zzCut_any (Pl.mk (Pl.cutL s.data.toList).2) _ S2.out).mono ?_
    rintro e w2 ⟨rfl, hb2⟩
    have HB2 := show Hid _ from hb2
    clear hb2
    go_wp2_with fail
    go_at_call 41
    refine (small_any (Pl.mk (Pl.cutL s.data.toList).1) _ S1.out).mono ?_
    rintro e w3 ⟨he, rfl⟩
    replace he := small_sub E1.out H1.out H2.out H3.out he
    subst he
    go_wp2_with fail
    go_at_call 41
    refine (small_any (Pl.mk (Pl.cutL (Pl.mk (Pl.cutL s.data.toList).2).data.toList).1) _ S3.out).mono ?_
    rintro e w4 ⟨he, rfl⟩
    replace he := small_sub E2.out H4.out H5.out H6.out he
    subst he
    go_wp2
    (try simp only [Exit.inBlock, Exit.then])
    refine bodyPost_ret (results_tmp4 rfl _ _ _) rfl ?_
    have h1 := H1.out
    have h2 := H2.out
    have h3 := H3.out
    have h4 := H4.out
    have h5 := H5.out
    have h6 := H6.out
    refine ⟨?_, HB1.out.trans (HB2.out.mono HB1.out.size)⟩
  · exact parseIs (by simp [Pl.pMaj, Pl.pOk, h1]) (by simp [Pl.pOk, h1]) (by simp [Pl.pMin, Pl.pOk, h1]) (by simp [Pl.pThrough, h1])
  · exact parseIs (by simp [Pl.pMaj, Pl.pOk, Pl.pThrough, h1, h2]) (by simp [Pl.pOk, Pl.pThrough, h1, h2]) (by simp [Pl.pMin, Pl.pOk, Pl.pThrough, h1, h2]) (by simp [Pl.pThrough, h1, h2])
  · have h10' : vM = 10 := by simpa using h10
    exact parseIs (by simp [Pl.pMaj, Pl.pOk, Pl.pThrough, h1, h2, h3, h5, h10']) (by simp [Pl.pOk, Pl.pThrough, h1, h2, h3, h5, h10']) (by simp [Pl.pMin, Pl.pOk, Pl.pThrough, h1, h2, h3, h5, h10']) (by simp [Pl.pThrough, h1, h2, h3, h5, h10'])
  · exact parseIs (by simp [Pl.pMaj, Pl.pOk, Pl.pThrough, h1, h2, h3, h5]) (by simp [Pl.pOk, Pl.pThrough, h1, h2, h3, h5]) (by simp [Pl.pMin, Pl.pOk, Pl.pThrough, h1, h2, h3, h5, h4, h6]) (by simp [Pl.pThrough, h1, h2, h3, h5])
  · exact parseIs (by simp [Pl.pMaj, Pl.pOk, Pl.pThrough, h1, h2, h3, h5]) (by simp [Pl.pOk, Pl.pThrough, h1, h2, h3, h5]) (by simp [Pl.pMin, Pl.pOk, Pl.pThrough, h1, h2, h3, h5, h4, h6]) (by simp [Pl.pThrough, h1, h2, h3, h5])
  · have h10' : vM ≠ 10 := by simpa using h10
    exact parseIs (by simp [Pl.pMaj, Pl.pOk, Pl.pThrough, h1, h2, h3, h10']) (by simp [Pl.pOk, Pl.pThrough, h1, h2, h3, h10']) (by simp [Pl.pMin, Pl.pOk, Pl.pThrough, h1, h2, h3, h10', h4, h6]) (by simp [Pl.pThrough, h1, h2, h3, h10'])
  · have h10' : vM ≠ 10 := by simpa using h10
    exact parseIs (by simp [Pl.pMaj, Pl.pOk, Pl.pThrough, h1, h2, h3, h10']) (by simp [Pl.pOk, Pl.pThrough, h1, h2, h3, h10']) (by simp [Pl.pMin, Pl.pOk, Pl.pThrough, h1, h2, h3, h10', h4, h6]) (by simp [Pl.pThrough, h1, h2, h3, h10'])

/-- A row of texts in a block of its own. -/
def RowAt (w : World) (N : Nat) (fs : List ByteArray) : Prop := N < w.heap.size ∧ ∀ j, j < fs.length → w.cell? ⟨N, j, none⟩ = some (.string (fs.getD j ByteArray.empty))

theorem RowAt.keep {w w' : World} {N : Nat} {fs : List ByteArray} (h : RowAt w N fs) (hb : Below w.heap.size w w') : RowAt w' N fs :=
  ⟨Nat.lt_of_lt_of_le h.1 hb.size, fun j hj => by rw [hb.cell (p := ⟨N, j, none⟩) h.1]; exact h.2 j hj⟩

theorem rowAt_alloc (w : World) (fs : List ByteArray) (cs : Array Value) (t : TypeId) (h : cs = (fs.map Value.string).toArray) : RowAt (w.alloc (.cells cs t)) w.heap.size fs := by
  subst h
  refine ⟨by simp, fun j hj => ?_⟩
  have hh : (w.alloc (.cells (fs.map Value.string).toArray t)).heap[w.heap.size]? = some (.cells (fs.map Value.string).toArray t) := by
    show (w.heap.push _)[w.heap.size]? = some _
    simp
  unfold World.cell?
  simp only [hh]
  simp [List.getD_eq_getElem?_getD, hj]

def FmtIs (w w' : World) (fs : List ByteArray) (k : Nat) (e : Ending) : Prop := ∃ N, e = .returned (.slice (some ⟨N, 0, none⟩) k k) ∧ w.heap.size ≤ N ∧ RowAt w' N fs

theorem str_ne {a b : ByteArray} (h : a ≠ b) : (a.toList == b.toList) = false := by
  rw [beq_eq_false_iff_ne]
  intro e
  rw [Lib.toList_data, Lib.toList_data] at e
  exact h (Pl.eq_of_bytes e)

theorem fmts_len (a : ByteArray) : (a = Pl.tX ∧ (Pl.fmts a).length = 6 ∧ (Pl.low a).length = 6) ∨ (a ≠ Pl.tX ∧ a = Pl.tArm ∧ (Pl.fmts a).length = 2 ∧ (Pl.low a).length = 1) ∨ (a ≠ Pl.tX ∧ a ≠ Pl.tArm ∧ (Pl.fmts a).length = 1 ∧ (Pl.low a).length = 1) := by
  by_cases hX : a = Pl.tX
  · left; refine ⟨hX, ?_, ?_⟩ <;> simp [Pl.low, Pl.fmts, hX]
  · right
    by_cases hA : a = Pl.tArm
    · left; refine ⟨hX, hA, ?_, ?_⟩
      · simp only [Pl.fmts]; rw [if_neg hX, if_pos hA]; rfl
      · simp only [Pl.low]; rw [if_neg hX]; rfl
    · right; refine ⟨hX, hA, ?_, ?_⟩
      · simp only [Pl.fmts]; rw [if_neg hX, if_neg hA]; rfl
      · simp only [Pl.low]; rw [if_neg hX]; rfl

set_option maxHeartbeats 2000000 in
set_option maxRecDepth 100000 in
theorem fmts_any (a : ByteArray) (k : Nat) (hk : (Pl.fmts a).length = k) (w : World) :
    Calls Tryd.prog 30 #[.string a] w fun e w' => FmtIs w w' (Pl.fmts a) k e ∧ Below w.heap.size w w' := by
  by_cases hX : a = Pl.tX
  · subst hX
    have e : Pl.fmts Pl.tX = [Pl.tX, Pl.tIntel, Pl.tFat64, Pl.tFat32, Pl.tU2, Pl.tU] := by simp [Pl.fmts]
    rw [e] at hk ⊢
    obtain rfl : 6 = k := hk
    have HC : Hid (#[Value.string Pl.tX, .string Pl.tIntel, .string Pl.tFat64, .string Pl.tFat32, .string Pl.tU2, .string Pl.tU] = ([Pl.tX, Pl.tIntel, Pl.tFat64, Pl.tFat32, Pl.tU2, Pl.tU].map Value.string).toArray) := rfl
    clear e
    unfold Pl.tX
    go_enter Tryd.func30, Tryd.ntmps30
    go_wp2
    go_ret
    exact ⟨⟨w.heap.size, rfl, Nat.le_refl _, rowAt_alloc w _ _ _ HC.out⟩, (Below.refl _ _).alloc (Nat.le_refl _) _⟩
  · have hX' := str_ne hX
    rw [show Pl.tX.toList = [120, 56, 54, 95, 54, 52] by rw [Lib.toList_data]; rfl] at hX'
    by_cases hA : a = Pl.tArm
    · have e : Pl.fmts a = [Pl.tArm, Pl.tU2] := by simp only [Pl.fmts]; rw [if_neg hX, if_pos hA]
      rw [e] at hk ⊢
      obtain rfl : 2 = k := hk
      have HC : Hid (#[Value.string Pl.tArm, .string Pl.tU2] = ([Pl.tArm, Pl.tU2].map Value.string).toArray) := rfl
      subst hA
      clear e hX hX'
      unfold Pl.tArm
      go_enter Tryd.func30, Tryd.ntmps30
      go_wp2
      go_ret
      exact ⟨⟨w.heap.size, rfl, Nat.le_refl _, rowAt_alloc w _ _ _ HC.out⟩, (Below.refl _ _).alloc (Nat.le_refl _) _⟩
    · have hA' := str_ne hA
      rw [show Pl.tArm.toList = [97, 114, 109, 54, 52] by rw [Lib.toList_data]; rfl] at hA'
      have e : Pl.fmts a = [a] := by simp only [Pl.fmts]; rw [if_neg hX, if_neg hA]
      rw [e] at hk ⊢
      obtain rfl : 1 = k := hk
      have HC : Hid (#[Value.string a] = ([a].map Value.string).toArray) := rfl
      clear e hX hA
      go_enter Tryd.func30, Tryd.ntmps30
      go_wp2
      go_ret
      exact ⟨⟨w.heap.size, rfl, Nat.le_refl _, rowAt_alloc w _ _ _ HC.out⟩, (Below.refl _ _).alloc (Nat.le_refl _) _⟩

theorem ret_bool {a b : Bool} (h : a = b) : Ending.returned (.bool a) = .returned (.bool b) := by rw [h]
theorem ret_str {a b : ByteArray} (h : a = b) : Ending.returned (.string a) = .returned (.string b) := by rw [h]
theorem ret_i64 {a b : Int} (h : a = b) : Ending.returned (.int .i64 a) = .returned (.int .i64 b) := by rw [h]

set_option maxHeartbeats 2000000 in
set_option maxRecDepth 100000 in
theorem count_any (a : ByteArray) (major minor : Int) (ok : Bool) (w : World) (hM : -1048576 ≤ major ∧ major ≤ 1048577) (hm : -10485769 ≤ minor ∧ minor ≤ 10485769) :
    Calls Tryd.prog 27 #[.string a, .int .i64 major, .bool ok, .int .i64 minor] w fun e w' => e = .returned (.int .i64 (Pl.count a major ok minor : Nat)) ∧ Below w.heap.size w w' := by
  obtain ⟨hM0, hM1⟩ := hM
  obtain ⟨hm0, hm1⟩ := hm
  cases ok with
  | false =>
    go_enter Tryd.func27, Tryd.ntmps27
    go_wp2
    go_ret
    exact ⟨rfl, Below.refl _ _⟩
  | true =>
    obtain ⟨k, k2, hk, hk2, hX⟩ : ∃ k k2, (Pl.fmts a).length = k ∧ (Pl.low a).length = k2 ∧ ((k = 6 ∧ k2 = 6 ∧ (a.toList == [120, 56, 54, 95, 54, 52]) = true) ∨ ((k = 2 ∨ k = 1) ∧ k2 = 1 ∧ (a.toList == [120, 56, 54, 95, 54, 52]) = false)) := by
      have ht : Pl.tX.toList = [120, 56, 54, 95, 54, 52] := by rw [Lib.toList_data]; rfl
      rcases fmts_len a with ⟨h1, h2, h3⟩ | ⟨h1, _, h2, h3⟩ | ⟨h1, _, h2, h3⟩
      · exact ⟨6, 6, h2, h3, .inl ⟨rfl, rfl, by rw [h1, ht]; rfl⟩⟩
      · exact ⟨2, 1, h2, h3, .inr ⟨.inl rfl, rfl, by rw [← ht]; exact str_ne h1⟩⟩
      · exact ⟨1, 1, h2, h3, .inr ⟨.inr rfl, rfl, by rw [← ht]; exact str_ne h1⟩⟩
    have HCT : Hid (Pl.count a major true minor = if major = 10 then (minor - 3).toNat * k else (major - 10).toNat * k + 13 * k2) := by
      show _ = _
      unfold Pl.count
      rw [if_pos rfl, hk, hk2]
    have HK := show Hid _ from hk
    clear hk hk2
    rcases hX with ⟨rfl, rfl, hX⟩ | ⟨rfl | rfl, rfl, hX⟩
    all_goals
      by_cases h10 : (major == 10) = true
      · have h10' : major = 10 := by simpa using h10
        by_cases hneg : minor - 3 < 0
        · go_enter Tryd.func27, Tryd.ntmps27
          go_wp2_with fail
          go_at_call 30
          refine (fmts_any _ _ HK.out _).mono ?_
          rintro e w1 ⟨⟨N, rfl, hN, hrow⟩, hb⟩
          have HB := show Hid _ from hb
          clear hN hrow hb
          go_wp2
          go_ret
          refine ⟨?_, HB.out⟩
          rw [HCT.out, if_pos h10']
          have : (minor - 3).toNat = 0 := by omega
          rw [this]
          simp
        · go_enter Tryd.func27, Tryd.ntmps27
          go_wp2_with fail
          go_at_call 30
          refine (fmts_any _ _ HK.out _).mono ?_
          rintro e w1 ⟨⟨N, rfl, hN, hrow⟩, hb⟩
          have HB := show Hid _ from hb
          clear hN hrow hb
          go_wp2
          go_ret
          refine ⟨?_, HB.out⟩
          rw [HCT.out, if_pos h10']
          exact ret_i64 (by omega)
      · have h10n : ¬ major = 10 := by simpa using h10
        have h10' : (major == 10) = false := by simpa using h10
        clear h10
        by_cases hneg : major - 10 < 0
        · go_enter Tryd.func27, Tryd.ntmps27
          go_wp2_with fail
          go_at_call 30
          refine (fmts_any _ _ HK.out _).mono ?_
          rintro e w1 ⟨⟨N, rfl, hN, hrow⟩, hb⟩
          have HB := show Hid _ from hb
          clear hN hrow hb
          go_wp2
          go_ret
          refine ⟨?_, HB.out⟩
          rw [HCT.out, if_neg h10n]
          exact ret_i64 (by omega)
        · go_enter Tryd.func27, Tryd.ntmps27
          go_wp2_with fail
          go_at_call 30
          refine (fmts_any _ _ HK.out _).mono ?_
          rintro e w1 ⟨⟨N, rfl, hN, hrow⟩, hb⟩
          have HB := show Hid _ from hb
          clear hN hrow hb
          go_wp2
          go_ret
          refine ⟨?_, HB.out⟩
          rw [HCT.out, if_neg h10n]
          exact ret_i64 (by omega)

theorem sVal_range (l : List UInt8) (h : Pl.sOk l = true) (k : Pl.sBig l = false) : -1048576 ≤ Pl.sVal l ∧ Pl.sVal l ≤ 1048576 := (Pl.atoi_ok l h k).2

/-- The parsed numbers are small, the minor one where the major is 10. -/
theorem pMaj_range (l : List UInt8) : -1048576 ≤ Pl.pMaj l ∧ Pl.pMaj l ≤ 1048576 := by
  unfold Pl.pMaj
  split
  · rename_i h
    simp only [Pl.pOk, Bool.and_eq_true] at h
    refine sVal_range _ h.1 ?_
    cases hb : Pl.sBig (Pl.majL l) with
    | false => rfl
    | true => have := h.2; simp [Pl.pThrough, h.1, hb] at this
  · omega

theorem sVal_wide (l : List UInt8) : -10485769 ≤ Pl.sVal l ∧ Pl.sVal l ≤ 10485769 := by
  have := Pl.smallRun_le (Pl.body l) 0 false (fun _ => by omega) (by omega)
  unfold Pl.sVal
  split <;> omega

theorem pMin_wide (l : List UInt8) : -10485769 ≤ Pl.pMin l ∧ Pl.pMin l ≤ 10485769 := by
  unfold Pl.pMin
  split
  · split
    · exact sVal_wide _
    · omega
  · omega

def fits (a : ByteArray) (l : List UInt8) : Bool := Pl.pThrough l && decide (Pl.count a (Pl.pMaj l) (Pl.pOk l) (Pl.pMin l) * (a.size + 32) ≤ 16777216)

set_option maxHeartbeats 2000000 in
set_option maxRecDepth 100000 in
theorem fits_any (a s : ByteArray) (w : World) (ha : a.size ≤ 1048576) (hs : s.size ≤ 1048576) :
    Calls Tryd.prog 25 #[.string a, .string s] w fun e w' => e = .returned (.bool (fits a s.data.toList)) ∧ Below w.heap.size w w' := by
  obtain ⟨M, hM⟩ : ∃ x, Pl.pMaj s.data.toList = x := ⟨_, rfl⟩
  obtain ⟨m, hm⟩ : ∃ x, Pl.pMin s.data.toList = x := ⟨_, rfl⟩
  obtain ⟨ok, hok⟩ : ∃ x, Pl.pOk s.data.toList = x := ⟨_, rfl⟩
  obtain ⟨th, hth⟩ : ∃ x, Pl.pThrough s.data.toList = x := ⟨_, rfl⟩
  have rM := pMaj_range s.data.toList
  have rm := pMin_wide s.data.toList
  have HP : Hid (∀ e, ParseIs s.data.toList e → e = .returned (.tuple #[.int .i64 M, .bool ok, .int .i64 m, .bool th])) := by
    intro e h
    rw [ParseIs, hM, hm, hok, hth] at h
    exact h
  have HF : Hid (fits a s.data.toList = (th && decide (Pl.count a M ok m * (a.size + 32) ≤ 16777216))) := by
    show _ = _
    rw [fits, hM, hm, hok, hth]
  rw [hM] at rM
  rw [hm] at rm
  clear hM hm hok hth
  cases th with
  | false =>
    go_enter Tryd.func25, Tryd.ntmps25
    go_wp2_with fail
    go_at_call 26
    refine (parse_any s _ hs).mono ?_
    rintro e w1 ⟨he, hb1⟩
    replace he := HP.out _ he
    subst he
    have HB1 := show Hid _ from hb1
    clear hb1
    go_wp2
    go_ret
    rw [HF.out]
    exact ⟨rfl, HB1.out⟩
  | true =>
    have hcb : Pl.count a M ok m ≤ 70000000 := by
      unfold Pl.count
      have h1 := Pl.fmts_pos a
      have h2 := Pl.low_pos a
      have h3 : (m - 3).toNat * (Pl.fmts a).length ≤ 10485770 * 6 := Nat.mul_le_mul (by omega) h1.2
      have h4 : (M - 10).toNat * (Pl.fmts a).length ≤ 1048577 * 6 := Nat.mul_le_mul (by omega) h1.2
      split
      · split <;> omega
      · omega
    have hpb : Pl.count a M ok m * (a.size + 32) ≤ 70000000 * 1048608 := Nat.mul_le_mul hcb (by omega)
    have HC : Hid (∀ w, Calls Tryd.prog 27 #[.string a, .int .i64 M, .bool ok, .int .i64 m] w fun e w' => e = .returned (.int .i64 (Pl.count a M ok m : Nat)) ∧ Below w.heap.size w w') := fun w => count_any a M m ok w (by omega) (by omega)
    obtain ⟨c, hc⟩ : ∃ c, Pl.count a M ok m = c := ⟨_, rfl⟩
    rw [hc] at HC HF hpb
    clear hc hcb
    obtain ⟨pr, hpr⟩ : ∃ p : Nat, c * (a.size + 32) = p := ⟨_, rfl⟩
    rw [hpr] at hpb HF
    have hpr' : (c : Int) * ((a.size : Int) + 32) = (pr : Int) := by rw [← hpr]; push_cast; rfl
    clear hpr
    go_enter Tryd.func25, Tryd.ntmps25
    go_wp2_with fail
    go_at_call 26
    refine (parse_any s _ hs).mono ?_
    rintro e w1 ⟨he, hb1⟩
    replace he := HP.out _ he
    subst he
    have HB1 := show Hid _ from hb1
    clear hb1
    go_wp2_with fail
    go_at_call 27
    refine (HC.out _).mono ?_
    rintro e w2 ⟨rfl, hb2⟩
    have HB2 := show Hid _ from hb2
    clear hb2
    go_wp2
    go_ret
    rw [HF.out]
    refine ⟨?_, HB1.out.trans (HB2.out.mono HB1.out.size)⟩
    exact ret_bool (by rw [Bool.true_and, Bool.eq_iff_iff, decide_eq_true_iff, decide_eq_true_iff]; omega)
end Go.Proofs.Qxb6601124aDoor
