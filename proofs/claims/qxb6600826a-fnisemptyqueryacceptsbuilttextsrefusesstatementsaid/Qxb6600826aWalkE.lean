/-
  THE WALKS: appendWithout, appendHarmless.
-/
import Derived.Test.Qxb6600826aWalkC
import Derived.Maps.AppendAt
import Derived.Laws.BytesArg
import Derived.OpenShut
namespace Go.Proofs.Qxb6600826a
open Go.RowKit
set_option linter.unusedSimpArgs false
set_option linter.unusedVariables false

theorem info5 : (Try.prog.info? 5).map (fun i => (i.zero, i.size, i.bytes)) = some (some (.int .u8 0), 1, 1) := by kernel_rfl

/-- A buffer of the call's own: v (not nil) owns the bytes D; below block B the world is as w0 was. -/
def Buf (B : Nat) (w0 w : World) (v : Value) (D : List Int) : Prop :=
  B ≤ w0.heap.size ∧ w.ownsRow B 5 1 v D.length (D.map (Value.int .u8)) ∧ v ≠ .slice none 0 0 ∧ Below B w0 w

theorem Buf.le {B : Nat} {w0 w : World} {v : Value} {D : List Int} (h : Buf B w0 w v D) : B ≤ w.heap.size := Nat.le_trans h.1 h.2.2.2.size

theorem Buf.own {B : Nat} {w0 w : World} {v : Value} {D : List Int} (h : Buf B w0 w v D) : w.ownsRow B 5 1 v D.length (D.map (Value.int .u8)) := h.2.1

theorem Buf.next {B : Nat} {w0 w : World} {v : Value} {D : List Int} {o : Obj} {v' : Value} {w1 : World} {N : List Int} {m : Nat} (h : Buf B w0 w v D) (hm : N.length = m)
    (hown : w1.ownsRow B 5 1 v' (D.length + m) (D.map (Value.int .u8) ++ N.map (Value.int .u8))) (hg : (w.alloc o).grownBy w1 v.ownBlock) (hne : ¬ v' = .slice none 0 0) : Buf B w0 w1 v' (D ++ N) := by
  refine ⟨h.1, ?_, hne, ?_⟩
  · rw [List.length_append, hm, List.map_append]; exact hown
  · refine (h.2.2.2.alloc h.le o).grown hg (by have := h.le; simp; omega) ?_
    intro k hk
    exact ((h.own.alloc o).lt k hk).1

theorem Buf.cast {B : Nat} {w0 w : World} {v : Value} {D D' : List Int} (h : Buf B w0 w v D) (e : D = D') : Buf B w0 w v D' := e ▸ h

def without (l : List Int) : List Int := l.filter fun c => !(decide (c = 10) || decide (c = 13))

theorem without_snoc_no (l : List Int) (c : Int) (h : c = 10 ∨ c = 13) : without (l ++ [c]) = without l := by
  unfold without
  rw [List.filter_append]
  rcases h with h | h <;> simp [h]
theorem without_snoc_yes (l : List Int) (c : Int) (h1 : c ≠ 10) (h2 : c ≠ 13) : without (l ++ [c]) = without l ++ [c] := by
  unfold without
  rw [List.filter_append]
  simp [h1, h2]
theorem without_len (l : List Int) : (without l).length ≤ l.length := List.length_filter_le _ _
theorem without_free (l : List Int) : ∀ y ∈ without l, ¬ (y = 10 ∨ y = 13) := by
  intro y hy
  have := (List.mem_filter.1 hy).2
  simp at this
  omega

theorem take_snoc (s : ByteArray) (k : Nat) (h : k < s.size) : (bs s).take (k + 1) = (bs s).take k ++ [(s[k].toNat : Int)] := by
  have hl : k < (bs s).length := by rw [bs_length]; exact h
  rw [List.take_succ_eq_append_getElem hl]
  have := bs_get s k h
  rw [List.getD_eq_getElem?_getD, List.getElem?_eq_getElem hl] at this
  rw [← this]; rfl

theorem harmless_snoc_mark (l : List Int) (c : Int) (h : c = 42 ∨ c = 47) : Pl.harmless (l ++ [c]) = Pl.harmless l ++ [c, 32] := by
  induction l with
  | nil => simp [Pl.harmless, h]
  | cons a r ih =>
    simp only [List.cons_append, Pl.harmless, ih]
    split <;> simp
theorem harmless_snoc (l : List Int) (c : Int) (h1 : c ≠ 42) (h2 : c ≠ 47) : Pl.harmless (l ++ [c]) = Pl.harmless l ++ [c] := by
  induction l with
  | nil => simp [Pl.harmless, h1, h2]
  | cons a r ih =>
    simp only [List.cons_append, Pl.harmless, ih]
    split <;> simp

set_option maxRecDepth 100000 in
set_option maxHeartbeats 1000000 in
theorem without_any (B : Nat) (w0 : World) (v : Value) (D : List Int) (s : ByteArray) (w : World) (h : Buf B w0 w v D) (hD : D.length ≤ 1073741824) (hs : s.size ≤ 1048576) :
    Calls Try.prog 28 #[v, .string s, .int .u8 10, .int .u8 13] w fun e w' => ∃ v', e = .returned v' ∧ Buf B w0 w' v' (D ++ without (bs s)) := by
  obtain ⟨i0, hi, hz0, hz1, hz2⟩ := info_parts info5
  have HBuf : Hid (Buf B w0 w v (D ++ without ((bs s).take 0))) := by
    refine (show Buf _ _ _ _ _ from ?_)
    simpa [without] using h
  clear h
  go_enter Try.func28, Try.ntmps28
  go_wp2
  go_loopw [0, 9] (fun u i wr => ∃ k : Nat, k ≤ s.size ∧ i = .int .i64 k ∧ Hid (Buf B w0 wr u (D ++ without ((bs s).take k)))) (fun _ i _ => s.size - (intOf i).toNat)
  case atStart => exact ⟨0, by omega, by go_num, HBuf⟩
  case round =>
    obtain ⟨k, hk, rfl, HK⟩ := hrel
    clear HBuf
    by_cases hlt : k < s.size
    · have HT : Hid ((bs s).take (k + 1) = (bs s).take k ++ [(s[k].toNat : Int)]) := take_snoc s k hlt
      by_cases h10 : ((s[k].toNat : Int) != 10) = true
      · by_cases h13 : ((s[k].toNat : Int) != 13) = true
        · have hwl := without_len ((bs s).take k)
          have hl : (D ++ without ((bs s).take k)).length ≤ 1073741824 + 1048576 := by simp at hwl ⊢; omega
          obtain ⟨C, hC⟩ : ∃ C, C = D ++ without ((bs s).take k) := ⟨_, rfl⟩
          have HC : Hid (C = D ++ without ((bs s).take k)) := hC
          have HB : Hid (Buf B w0 wr u0 C) := by rw [hC]; exact HK
          rw [← hC] at hl
          have HE : Hid (D ++ without ((bs s).take (k + 1)) = C ++ [(s[k].toNat : Int)]) := by
            show _ = _
            rw [HT.out, without_snoc_yes _ _ (bne_iff_ne.1 h10) (bne_iff_ne.1 h13), hC, List.append_assoc]
          clear hC hwl HK
          go_wp2_with (at_builtin; refine wpList_append_own _ rfl (.tmp 28) (.tmp 32) 27 rfl B 5 i0 (.int .u8 0) 1 1 Try.underlying27 hi hz0 hz1 hz2 rfl (by decide) u0 C.length (C.map (Value.int .u8)) rfl (HB.out.own.alloc _) ⟨wr.heap.size, 0, none⟩ 1 1 [.int .u8 (s[k].toNat : Int)] rfl rfl (cell_one_new _ _ _) (by intro u hu; simp at hu; subst hu; rfl) (by unfold maxLen; omega) (by omega) (by have := HB.out.le; simp; omega) ?_)
          intro v1 w1 hown1 hg1 hif1
          have HB1 : Hid (Buf B w0 w1 v1 (D ++ without ((bs s).take (k + 1)))) := (HB.out.next (N := [(s[k].toNat : Int)]) rfl hown1 hg1 hif1).cast HE.out.symm
          clear hown1 hg1 hif1
          go_wp2
          go_roundw
          case rel => exact ⟨k + 1, by omega, by go_num, HB1⟩
          case measure => simp [intOf]; omega
        · have h13' : ((s[k].toNat : Int) != 13) = false := by simpa using h13
          have HB1 : Hid (Buf B w0 wr u0 (D ++ without ((bs s).take (k + 1)))) := HK.out.cast (by rw [HT.out, without_snoc_no _ _ (.inr (by simpa using h13))])
          clear h13
          go_wp2
          go_roundw
          case rel => exact ⟨k + 1, by omega, by go_num, HB1⟩
          case measure => simp [intOf]; omega
      · have h10' : ((s[k].toNat : Int) != 10) = false := by simpa using h10
        have HB1 : Hid (Buf B w0 wr u0 (D ++ without ((bs s).take (k + 1)))) := HK.out.cast (by rw [HT.out, without_snoc_no _ _ (.inl (by simpa using h10))])
        clear h10
        go_wp2
        go_roundw
        case rel => exact ⟨k + 1, by omega, by go_num, HB1⟩
        case measure => simp [intOf]; omega
    · have HB1 : Hid (Buf B w0 wr u0 (D ++ without (bs s))) := HK.out.cast (by rw [List.take_of_length_le (by rw [bs_length]; omega)])
      clear HK
      go_wp2
      go_ret
      exact ⟨u0, rfl, HB1.out⟩

set_option maxRecDepth 100000 in
set_option maxHeartbeats 1000000 in
theorem harmless_any (B : Nat) (w0 : World) (v : Value) (D : List Int) (s : ByteArray) (w : World) (h : Buf B w0 w v D) (hD : D.length ≤ 1073741824) (hs : s.size ≤ 1048576) :
    Calls Try.prog 29 #[v, .string s] w fun e w' => ∃ v', e = .returned v' ∧ Buf B w0 w' v' (D ++ Pl.harmless (bs s)) := by
  obtain ⟨i0, hi, hz0, hz1, hz2⟩ := info_parts info5
  have HBuf : Hid (Buf B w0 w v (D ++ Pl.harmless ((bs s).take 0))) := by
    refine (show Buf _ _ _ _ _ from ?_)
    simpa [Pl.harmless] using h
  clear h
  go_enter Try.func29, Try.ntmps29
  go_wp2
  go_loopw [0, 5] (fun u i wr => ∃ k : Nat, k ≤ s.size ∧ i = .int .i64 k ∧ Hid (Buf B w0 wr u (D ++ Pl.harmless ((bs s).take k)))) (fun _ i _ => s.size - (intOf i).toNat)
  case atStart => exact ⟨0, by omega, by go_num, HBuf⟩
  case round =>
    obtain ⟨k, hk, rfl, HK⟩ := hrel
    clear HBuf
    by_cases hlt : k < s.size
    · have HT : Hid ((bs s).take (k + 1) = (bs s).take k ++ [(s[k].toNat : Int)]) := take_snoc s k hlt
      have hwl := (Pl.harmless_length ((bs s).take k)).2
      have hl : (D ++ Pl.harmless ((bs s).take k)).length ≤ 1073741824 + 2097152 := by simp at hwl ⊢; omega
      obtain ⟨C, hC⟩ : ∃ C, C = D ++ Pl.harmless ((bs s).take k) := ⟨_, rfl⟩
      have HB : Hid (Buf B w0 wr u0 C) := by rw [hC]; exact HK
      have HC : Hid (C = D ++ Pl.harmless ((bs s).take k)) := hC
      rw [← hC] at hl
      clear hC hwl HK
      by_cases hm : (s[k].toNat : Int) = 42 ∨ (s[k].toNat : Int) = 47
      · have HE : Hid (D ++ Pl.harmless ((bs s).take (k + 1)) = (C ++ [(s[k].toNat : Int)]) ++ [32]) := by
          show _ = _
          rw [HT.out, harmless_snoc_mark _ _ hm, HC.out]; simp
        have hmm : ((s[k].toNat : Int) == 42) = true ∨ (((s[k].toNat : Int) == 42) = false ∧ ((s[k].toNat : Int) == 47) = true) := by
          rcases hm with h | h
          · left; rw [beq_iff_eq]; exact h
          · right; refine ⟨?_, by rw [beq_iff_eq]; exact h⟩
            rw [beq_eq_false_iff_ne]; omega
        clear hm
        rcases hmm with hmm | ⟨hm1, hm2⟩
        all_goals
          go_wp2_with (at_builtin; refine wpList_append_own _ rfl (.tmp 12) (.tmp 16) 27 rfl B 5 i0 (.int .u8 0) 1 1 Try.underlying27 hi hz0 hz1 hz2 rfl (by decide) u0 C.length (C.map (Value.int .u8)) rfl (HB.out.own.alloc _) ⟨wr.heap.size, 0, none⟩ 1 1 [.int .u8 (s[k].toNat : Int)] rfl rfl (cell_one_new _ _ _) (by intro u hu; simp at hu; subst hu; rfl) (by unfold maxLen; omega) (by omega) (by have := HB.out.le; simp; omega) ?_)
          intro v1 w1 hown1 hg1 hif1
          have HB1 : Hid (Buf B w0 w1 v1 (C ++ [(s[k].toNat : Int)])) := HB.out.next (N := [(s[k].toNat : Int)]) rfl hown1 hg1 hif1
          have hl1 : (C ++ [(s[k].toNat : Int)]).length = C.length + 1 := by simp
          obtain ⟨C1, hC1⟩ : ∃ C1, C1 = C ++ [(s[k].toNat : Int)] := ⟨_, rfl⟩
          rw [← hC1] at HB1 HE hl1
          clear hown1 hg1 hif1 hC1
          have hl2 : C1.length ≤ 1073741824 + 2097152 + 1 := by omega
          clear hl1
          go_wp2_with (at_builtin; refine wpList_append_own _ rfl (.tmp 28) (.tmp 29) 27 rfl B 5 i0 (.int .u8 0) 1 1 Try.underlying27 hi hz0 hz1 hz2 rfl (by decide) v1 C1.length (C1.map (Value.int .u8)) rfl (HB1.out.own.alloc _) ⟨w1.heap.size, 0, none⟩ 1 1 [.int .u8 32] rfl rfl (cell_one_new _ _ _) (by intro u hu; simp at hu; subst hu; rfl) (by unfold maxLen; omega) (by omega) (by have := HB1.out.le; simp; omega) ?_)
          intro v2 w2 hown2 hg2 hif2
          have HB2 : Hid (Buf B w0 w2 v2 (D ++ Pl.harmless ((bs s).take (k + 1)))) := (HB1.out.next (N := [32]) rfl hown2 hg2 hif2).cast HE.out.symm
          clear hown2 hg2 hif2
          go_wp2
          go_roundw
          case rel => exact ⟨k + 1, by omega, by go_num, HB2⟩
          case measure => simp [intOf]; omega
      · have HE : Hid (D ++ Pl.harmless ((bs s).take (k + 1)) = C ++ [(s[k].toNat : Int)]) := by
          show _ = _
          rw [HT.out, harmless_snoc _ _ (by omega) (by omega), HC.out]; simp
        have hm1 : ((s[k].toNat : Int) == 42) = false := by rw [beq_eq_false_iff_ne]; omega
        have hm2 : ((s[k].toNat : Int) == 47) = false := by rw [beq_eq_false_iff_ne]; omega
        clear hm
        go_wp2_with (at_builtin; refine wpList_append_own _ rfl (.tmp 12) (.tmp 16) 27 rfl B 5 i0 (.int .u8 0) 1 1 Try.underlying27 hi hz0 hz1 hz2 rfl (by decide) u0 C.length (C.map (Value.int .u8)) rfl (HB.out.own.alloc _) ⟨wr.heap.size, 0, none⟩ 1 1 [.int .u8 (s[k].toNat : Int)] rfl rfl (cell_one_new _ _ _) (by intro u hu; simp at hu; subst hu; rfl) (by unfold maxLen; omega) (by omega) (by have := HB.out.le; simp; omega) ?_)
        intro v1 w1 hown1 hg1 hif1
        have HB1 : Hid (Buf B w0 w1 v1 (D ++ Pl.harmless ((bs s).take (k + 1)))) := (HB.out.next (N := [(s[k].toNat : Int)]) rfl hown1 hg1 hif1).cast HE.out.symm
        clear hown1 hg1 hif1
        go_wp2
        go_roundw
        case rel => exact ⟨k + 1, by omega, by go_num, HB1⟩
        case measure => simp [intOf]; omega
    · have HB1 : Hid (Buf B w0 wr u0 (D ++ Pl.harmless (bs s))) := HK.out.cast (by rw [List.take_of_length_le (by rw [bs_length]; omega)])
      clear HK
      go_wp2
      go_ret
      exact ⟨u0, rfl, HB1.out⟩
end Go.Proofs.Qxb6600826a
