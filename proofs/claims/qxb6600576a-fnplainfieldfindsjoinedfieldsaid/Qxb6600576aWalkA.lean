/-
  THE WALKS: bytes.IndexByte, plainField.
-/
import Derived.Test.Qxb6600576aProg
import Derived.Test.Qxb6600576aPlain
import Derived.WalkKit
import Derived.WalkSpells
import Derived.WalkLawsBesides
import Derived.Lib.BytesEntry
import Derived.Laws.CopyOwn
import Derived.OpenShut
namespace Go.Proofs.Qxb6600576a
open Go.RowKit
set_option linter.unusedSimpArgs false
set_option linter.unusedVariables false

theorem ret_int {k : IntKind} {a b : Int} (h : a = b) : Ending.returned (.int k a) = .returned (.int k b) := by rw [h]
theorem ret_two {k : IntKind} {a b c d : Int} (h : a = b) (h' : c = d) : Ending.returned (.tuple #[.int k a, .int k c]) = .returned (.tuple #[.int k b, .int k d]) := by rw [h, h']

theorem u8_eq (x : Int) (h0 : 0 ≤ x) (h1 : x ≤ 255) (c : Nat) (hc : c < 256) : (UInt8.ofNat x.toNat == UInt8.ofNat c) = decide (x = c) := by
  rw [Bool.eq_iff_iff, beq_iff_eq, decide_eq_true_iff]
  constructor
  · intro h
    have := congrArg UInt8.toNat h
    simp at this
    omega
  · intro h; subst h; simp

/-- What IndexByte's number says. -/
theorem index_cases (l : List Int) (c : Nat) (hc : c < 256) (hb : ∀ x ∈ l, 0 ≤ x ∧ x ≤ 255) :
    (Lib.indexByte (Lib.bytesOf l) (UInt8.ofNat c) = -1 ∧ ∀ x ∈ l, x ≠ (c : Int)) ∨
    ∃ q : Nat, Lib.indexByte (Lib.bytesOf l) (UInt8.ofNat c) = (q : Int) ∧ q < l.length ∧ l.getD q 0 = (c : Int) ∧ ∀ x ∈ l.take q, x ≠ (c : Int) := by
  induction l with
  | nil => left; exact ⟨rfl, by simp⟩
  | cons a r ih =>
    have ha := hb a (by simp)
    have hr : ∀ x ∈ r, 0 ≤ x ∧ x ≤ 255 := fun x hx => hb x (by simp [hx])
    have e : Lib.indexByte (Lib.bytesOf (a :: r)) (UInt8.ofNat c) = if (UInt8.ofNat a.toNat == UInt8.ofNat c) = true then 0 else if (Lib.indexByte (Lib.bytesOf r) (UInt8.ofNat c) == -1) = true then -1 else Lib.indexByte (Lib.bytesOf r) (UInt8.ofNat c) + 1 := rfl
    rw [e, u8_eq a ha.1 ha.2 c hc]
    by_cases h : a = (c : Int)
    · right; exact ⟨0, by simp [h], by simp, by simp [h], by simp⟩
    · rcases ih hr with ⟨h1, h2⟩ | ⟨q, h1, h2, h3, h4⟩
      · left
        refine ⟨by simp [h, h1], ?_⟩
        intro x hx
        rcases List.mem_cons.1 hx with rfl | hx
        · exact h
        · exact h2 x hx
      · right
        refine ⟨q + 1, ?_, by simp; omega, by simpa using h3, ?_⟩
        · rw [h1]; simp [h]
        · intro x hx
          rw [List.take_succ_cons] at hx
          rcases List.mem_cons.1 hx with rfl | hx
          · exact h
          · exact h4 x hx

/-- IndexByte of a comma, by 'fLen'. -/
theorem index_comma (l : List Int) (hb : ∀ x ∈ l, 0 ≤ x ∧ x ≤ 255) :
    (Lib.indexByte (Lib.bytesOf l) (44 : Int).toNat.toUInt8 = -1 ∧ Pl.fLen l = l.length) ∨
    (Lib.indexByte (Lib.bytesOf l) (44 : Int).toNat.toUInt8 = (Pl.fLen l : Int) ∧ Pl.fLen l < l.length) := by
  rcases index_cases l 44 (by omega) hb with ⟨h, h2⟩ | ⟨q, h, h2, h3, h4⟩
  · exact .inl ⟨h, Pl.fLen_none l h2⟩
  · have := Pl.fLen_at l q h2 h3 h4
    rw [this]
    exact .inr ⟨h, h2⟩

set_option maxHeartbeats 400000 in
/-- bytes.IndexByte at a slice whose cells are known. -/
theorem indexByte_any (b off n c : Nat) (xs : List Int) (cv : Int) (w : World) (hx : xs.length = n) (hc : ∀ i, i < n → w.cell? ⟨b, off + i, none⟩ = some (.int .u8 (xs.getD i 0))) :
    Calls Try.prog 22 #[.slice (some ⟨b, off, none⟩) n c, .int .u8 cv] w fun e w' => e = .returned (.int .i64 (Lib.indexByte (Lib.bytesOf xs) cv.toNat.toUInt8)) ∧ w' = w := by
  have hrun : (callFunc 23 #[.slice (some ⟨b, off, none⟩) n c, .int .u8 cv]).run Try.prog w = .ok (.value (.int .i64 (Lib.indexByte (Lib.bytesOf xs) cv.toNat.toUInt8))) w := by
    rw [run_callFunc_extern Try.func23 (by kernel_rfl) (by kernel_rfl) (by kernel_rfl) (e := Extern.BytealgIndexByte.indexByte) (by kernel_rfl), Lib.run_indexByteSlice w b off n c xs hx hc cv]
    rfl
  clear hc
  go_enter Try.func22, Try.ntmps22
  go_wp2
  go_ret
  exact ⟨rfl, rfl⟩

theorem indexByte_nil (n c : Nat) (cv : Int) (w : World) :
    Calls Try.prog 22 #[.slice none n c, .int .u8 cv] w fun e w' => e = .returned (.int .i64 (-1)) ∧ w' = w := by
  have hrun : (callFunc 23 #[.slice none n c, .int .u8 cv]).run Try.prog w = .ok (.value (.int .i64 (-1))) w := by
    rw [run_callFunc_extern Try.func23 (by kernel_rfl) (by kernel_rfl) (by kernel_rfl) (e := Extern.BytealgIndexByte.indexByte) (by kernel_rfl), Lib.run_indexByteNil w n c cv]
    rfl
  go_enter Try.func22, Try.ntmps22
  go_wp2
  go_ret
  exact ⟨rfl, rfl⟩

/-- The search for a comma from place f of the line on. -/
theorem idx_at (g f o E C : Nat) (ho : f < E → o = f) (l : List Int) (w : World) (hl : l.length = E) (hf : f ≤ E) (hb : ∀ x ∈ l, 0 ≤ x ∧ x ≤ 255) (hc : ∀ j, j < E → w.cell? ⟨g, j, none⟩ = some (.int .u8 (l.getD j 0))) :
    Calls Try.prog 22 #[.slice (some ⟨g, o, none⟩) (E - f) C, .int .u8 44] w fun e w' => (∃ v : Int, e = .returned (.int .i64 v) ∧
      ((v = -1 ∧ f + Pl.fLen (l.drop f) = E ∧ Pl.nxt (l.drop f) = 0) ∨ (v = (Pl.fLen (l.drop f) : Int) ∧ f + Pl.fLen (l.drop f) < E ∧ Pl.nxt (l.drop f) = Pl.fLen (l.drop f) + 1))) ∧ w' = w := by
  refine (indexByte_any g o (E - f) C (l.drop f) 44 w (by simp; omega) ?_).mono ?_
  · intro i hi
    rw [ho (by omega), hc (f + i) (by omega)]
    simp [List.getD_eq_getElem?_getD, List.getElem?_drop]
  · rintro e w' ⟨rfl, rfl⟩
    refine ⟨⟨_, rfl, ?_⟩, rfl⟩
    have hdl : (l.drop f).length = E - f := by simp; omega
    rcases index_comma (l.drop f) (fun x hx => hb x (List.mem_of_mem_drop hx)) with ⟨h1, h2⟩ | ⟨h1, h2⟩
    · refine .inl ⟨h1, by omega, ?_⟩
      unfold Pl.nxt; rw [if_neg (by omega)]
    · refine .inr ⟨h1, by omega, ?_⟩
      unfold Pl.nxt; rw [if_pos h2]

set_option maxHeartbeats 4000000 in
/-- plainField, at a slice at the head of a block, not empty. -/
theorem plainField_any (g n cap col : Nat) (d : List Int) (w : World) (hn : d.length = n) (hpos : 0 < n) (hcap : n ≤ cap) (hN : cap ≤ 1099511627776) (hcol : col ≤ 1099511627776) (hb : ∀ x ∈ d, 0 ≤ x ∧ x ≤ 255)
    (hc : ∀ j, j < n → w.cell? ⟨g, j, none⟩ = some (.int .u8 (d.getD j 0))) :
    Calls Try.prog 21 #[.slice (some ⟨g, 0, none⟩) n cap, .int .i64 col] w fun e w' => e = .returned (.tuple #[.int .i64 (Pl.from_ d col : Nat), .int .i64 (Pl.to_ d col : Nat)]) ∧ w' = w := by
  have HC : Hid (∀ j, j < n → w.cell? ⟨g, j, none⟩ = some (.int .u8 (d.getD j 0))) := hc
  have HB : Hid (∀ x ∈ d, 0 ≤ x ∧ x ≤ 255) := hb
  obtain ⟨c1, hc1⟩ : ∃ c, c = d.getD (n - 1) 0 := ⟨_, rfl⟩
  have hcell1 : w.cell? ⟨g, n - 1, none⟩ = some (.int .u8 c1) := by rw [hc _ (by omega), hc1]
  have key : ∃ e1 e : Nat, e1 ≤ n ∧ e ≤ e1 ∧ Hid (Pl.lend d = e) ∧
      (((c1 == 10) = true ∧ ((n : Int) - 1 = (e1 : Int)) ∧ ((e1 = 0 ∧ e = 0) ∨ (0 < e1 ∧ ∃ c2, w.cell? ⟨g, e1 - 1, none⟩ = some (.int .u8 c2) ∧ (((c2 == 13) = true ∧ ((e1 : Int) - 1 = (e : Int))) ∨ ((c2 == 13) = false ∧ e1 = e))))) ∨
       ((c1 == 10) = false ∧ e1 = n ∧ (((c1 == 13) = true ∧ ((n : Int) - 1 = (e : Int))) ∨ ((c1 == 13) = false ∧ e = n)))) := by
    have L1 : Pl.lend1 d = if d.getD (n - 1) 0 = 10 then n - 1 else n := by
      unfold Pl.lend1
      rw [hn]
      by_cases h : d.getD (n - 1) 0 = 10
      · rw [if_pos ⟨hpos, h⟩, if_pos h]
      · rw [if_neg (fun x => h x.2), if_neg h]
    by_cases h10 : d.getD (n - 1) 0 = 10
    · rw [if_pos h10] at L1
      by_cases h0 : n - 1 = 0
      · refine ⟨n - 1, 0, by omega, by omega, ?_, .inl ⟨by rw [hc1, beq_iff_eq]; exact h10, by omega, .inl ⟨h0, rfl⟩⟩⟩
        show _ = _
        unfold Pl.lend; rw [L1, if_neg (by omega)]; exact h0
      · by_cases h13 : d.getD (n - 1 - 1) 0 = 13
        · refine ⟨n - 1, n - 1 - 1, by omega, by omega, ?_, .inl ⟨by rw [hc1, beq_iff_eq]; exact h10, by omega, .inr ⟨by omega, d.getD (n - 1 - 1) 0, hc _ (by omega), .inl ⟨by rw [beq_iff_eq]; exact h13, by omega⟩⟩⟩⟩
          show _ = _
          unfold Pl.lend; rw [L1, if_pos ⟨by omega, h13⟩]
        · refine ⟨n - 1, n - 1, by omega, by omega, ?_, .inl ⟨by rw [hc1, beq_iff_eq]; exact h10, by omega, .inr ⟨by omega, d.getD (n - 1 - 1) 0, hc _ (by omega), .inr ⟨by rw [beq_eq_false_iff_ne]; exact h13, rfl⟩⟩⟩⟩
          show _ = _
          unfold Pl.lend; rw [L1, if_neg (fun x => h13 x.2)]
    · rw [if_neg h10] at L1
      by_cases h13 : d.getD (n - 1) 0 = 13
      · refine ⟨n, n - 1, by omega, by omega, ?_, .inr ⟨by rw [hc1, beq_eq_false_iff_ne]; exact h10, rfl, .inl ⟨by rw [hc1, beq_iff_eq]; exact h13, by omega⟩⟩⟩
        show _ = _
        unfold Pl.lend; rw [L1, if_pos ⟨by omega, h13⟩]
      · refine ⟨n, n, by omega, by omega, ?_, .inr ⟨by rw [hc1, beq_eq_false_iff_ne]; exact h10, rfl, .inr ⟨by rw [hc1, beq_eq_false_iff_ne]; exact h13, rfl⟩⟩⟩
        show _ = _
        unfold Pl.lend; rw [L1, if_neg (fun x => h13 x.2)]
  obtain ⟨e1, e, he1, hee, HL, key⟩ := key
  clear hc hc1 hb
  have hen : e ≤ n := by omega
  obtain ⟨l, hl⟩ : ∃ l, l = d.take e := ⟨_, rfl⟩
  have HLL : Hid (l = d.take e) := hl
  have hll : l.length = e := by rw [hl]; simp; omega
  have HFR : Hid (Pl.from_ d col = Pl.F l col) := by
    show _ = _
    unfold Pl.from_; rw [HL.out, hl]
  have HTO : Hid (Pl.to_ d col = Pl.F l col + Pl.fLen (l.drop (Pl.F l col))) := by
    show _ = _
    unfold Pl.to_ Pl.from_; rw [HL.out, hl]
  rw [HFR.out, HTO.out]
  have HBL : Hid (∀ x ∈ l, 0 ≤ x ∧ x ≤ 255) := fun x hx => HB.out x (by rw [HLL.out] at hx; exact List.mem_of_mem_take hx)
  have HCL : Hid (∀ j, j < e → w.cell? ⟨g, j, none⟩ = some (.int .u8 (l.getD j 0))) := by
    intro j hj
    rw [HC.out j (by omega), HLL.out, Pl.getD_take _ _ _ hj]
  clear hl HFR HTO HLL HL HB HC
  go_enter Try.func21, Try.ntmps21
  rcases key with ⟨k1, k2, ⟨k3, k4⟩ | ⟨k3, c2, k4, ⟨k5, k6⟩ | ⟨k5, k6⟩⟩⟩ | ⟨k1, k2, ⟨k3, k4⟩ | ⟨k3, k4⟩⟩
  · have k2' : (n : Int) - 1 = (e : Int) := by omega
    have k4' : e ≤ 0 := by omega
    rw [show n - 1 = e from by omega] at hcell1
    clear k2 k3 k4
    go_wp2
    go_loop [4, 35] (fun f t => ∃ j : Nat, j ≤ col ∧ t = .int .i64 j ∧ f = .int .i64 (Pl.F l j : Nat)) (fun _ t => col - (intOf t).toNat)
    case atStart => exact ⟨0, by omega, by go_num, by simp [Pl.F]⟩
    case round =>
      obtain ⟨j, hj, rfl, rfl⟩ := hrel
      have hF : Pl.F l j ≤ e := by have := Pl.F_le l j; omega
      obtain ⟨f, hf⟩ : ∃ f, f = Pl.F l j := ⟨_, rfl⟩
      rw [← hf] at hF
      rw [← hf]
      have HF : Hid (f = Pl.F l j) := hf
      clear hf
      by_cases hjc : j < col
      · go_wp2_with fail
        all_goals
          refine (idx_at g f f e (cap - f) (fun _ => rfl) l _ hll hF HBL.out HCL.out).mono ?_
          rintro e' w' ⟨⟨v, rfl, hv⟩, rfl⟩
          obtain ⟨t, ht⟩ : ∃ t, t = Pl.fLen (l.drop f) := ⟨_, rfl⟩
          rw [← ht] at hv
          rcases hv with ⟨rfl, h2, h3⟩ | ⟨rfl, h2, h3⟩
          · have HN : Hid (Pl.F l (j + 1) = f) := by
              show _ = _
              simp only [Pl.F]; rw [← HF.out, h3]; rfl
            clear h3 ht h2
            go_wp2
            go_round
            case rel => exact ⟨j + 1, by omega, by go_num, by rw [HN.out]⟩
            case measure => simp [intOf]; omega
          · have HN : Hid (Pl.F l (j + 1) = f + (t + 1)) := by
              show _ = _
              simp only [Pl.F]; rw [← HF.out, h3]
            clear h3 ht
            go_wp2
            go_round
            case rel => exact ⟨j + 1, by omega, by go_num, by rw [HN.out]; go_num⟩
            case measure => simp [intOf]; omega
      · go_wp2_with fail
        all_goals
          refine (idx_at g f f e (cap - f) (fun _ => rfl) l _ hll hF HBL.out HCL.out).mono ?_
          rintro e' w' ⟨⟨v, rfl, hv⟩, rfl⟩
          have HJ : Hid (Pl.F l col = f) := by
            show _ = _
            rw [HF.out, show col = j from by omega]
          obtain ⟨t, ht⟩ : ∃ t, t = Pl.fLen (l.drop f) := ⟨_, rfl⟩
          rw [← ht] at hv
          have HT := show Hid _ from ht
          clear ht
          rcases hv with ⟨rfl, h2, h3⟩ | ⟨rfl, h2, h3⟩
          · have H2 := show Hid _ from h2
            clear h2 h3
            go_wp2
            go_ret2
            exact ⟨ret_two (by rw [HJ.out]) (by rw [HJ.out, ← HT.out, H2.out]), rfl⟩
          · clear h3
            go_wp2
            go_ret2
            exact ⟨ret_two (by rw [HJ.out]) (by rw [HJ.out, ← HT.out]; omega), rfl⟩
  · rw [show n - 1 = e1 from by omega] at hcell1
    rw [show e1 - 1 = e from by omega] at k4
    go_wp2
    go_loop [4, 35] (fun f t => ∃ j : Nat, j ≤ col ∧ t = .int .i64 j ∧ f = .int .i64 (Pl.F l j : Nat)) (fun _ t => col - (intOf t).toNat)
    case atStart => exact ⟨0, by omega, by go_num, by simp [Pl.F]⟩
    case round =>
      obtain ⟨j, hj, rfl, rfl⟩ := hrel
      have hF : Pl.F l j ≤ e := by have := Pl.F_le l j; omega
      obtain ⟨f, hf⟩ : ∃ f, f = Pl.F l j := ⟨_, rfl⟩
      rw [← hf] at hF
      rw [← hf]
      have HF : Hid (f = Pl.F l j) := hf
      clear hf
      by_cases hjc : j < col
      · go_wp2_with fail
        all_goals
          refine (idx_at g f f e (cap - f) (fun _ => rfl) l _ hll hF HBL.out HCL.out).mono ?_
          rintro e' w' ⟨⟨v, rfl, hv⟩, rfl⟩
          obtain ⟨t, ht⟩ : ∃ t, t = Pl.fLen (l.drop f) := ⟨_, rfl⟩
          rw [← ht] at hv
          rcases hv with ⟨rfl, h2, h3⟩ | ⟨rfl, h2, h3⟩
          · have HN : Hid (Pl.F l (j + 1) = f) := by
              show _ = _
              simp only [Pl.F]; rw [← HF.out, h3]; rfl
            clear h3 ht h2
            go_wp2
            go_round
            case rel => exact ⟨j + 1, by omega, by go_num, by rw [HN.out]⟩
            case measure => simp [intOf]; omega
          · have HN : Hid (Pl.F l (j + 1) = f + (t + 1)) := by
              show _ = _
              simp only [Pl.F]; rw [← HF.out, h3]
            clear h3 ht
            go_wp2
            go_round
            case rel => exact ⟨j + 1, by omega, by go_num, by rw [HN.out]; go_num⟩
            case measure => simp [intOf]; omega
      · go_wp2_with fail
        all_goals
          refine (idx_at g f f e (cap - f) (fun _ => rfl) l _ hll hF HBL.out HCL.out).mono ?_
          rintro e' w' ⟨⟨v, rfl, hv⟩, rfl⟩
          have HJ : Hid (Pl.F l col = f) := by
            show _ = _
            rw [HF.out, show col = j from by omega]
          obtain ⟨t, ht⟩ : ∃ t, t = Pl.fLen (l.drop f) := ⟨_, rfl⟩
          rw [← ht] at hv
          have HT := show Hid _ from ht
          clear ht
          rcases hv with ⟨rfl, h2, h3⟩ | ⟨rfl, h2, h3⟩
          · have H2 := show Hid _ from h2
            clear h2 h3
            go_wp2
            go_ret2
            exact ⟨ret_two (by rw [HJ.out]) (by rw [HJ.out, ← HT.out, H2.out]), rfl⟩
          · clear h3
            go_wp2
            go_ret2
            exact ⟨ret_two (by rw [HJ.out]) (by rw [HJ.out, ← HT.out]; omega), rfl⟩
  · have k6' := k6.symm
    subst k6'
    rw [show n - 1 = e from by omega] at hcell1
    go_wp2
    go_loop [4, 35] (fun f t => ∃ j : Nat, j ≤ col ∧ t = .int .i64 j ∧ f = .int .i64 (Pl.F l j : Nat)) (fun _ t => col - (intOf t).toNat)
    case atStart => exact ⟨0, by omega, by go_num, by simp [Pl.F]⟩
    case round =>
      obtain ⟨j, hj, rfl, rfl⟩ := hrel
      have hF : Pl.F l j ≤ e := by have := Pl.F_le l j; omega
      obtain ⟨f, hf⟩ : ∃ f, f = Pl.F l j := ⟨_, rfl⟩
      rw [← hf] at hF
      rw [← hf]
      have HF : Hid (f = Pl.F l j) := hf
      clear hf
      by_cases hjc : j < col
      · go_wp2_with fail
        all_goals
          refine (idx_at g f f e (cap - f) (fun _ => rfl) l _ hll hF HBL.out HCL.out).mono ?_
          rintro e' w' ⟨⟨v, rfl, hv⟩, rfl⟩
          obtain ⟨t, ht⟩ : ∃ t, t = Pl.fLen (l.drop f) := ⟨_, rfl⟩
          rw [← ht] at hv
          rcases hv with ⟨rfl, h2, h3⟩ | ⟨rfl, h2, h3⟩
          · have HN : Hid (Pl.F l (j + 1) = f) := by
              show _ = _
              simp only [Pl.F]; rw [← HF.out, h3]; rfl
            clear h3 ht h2
            go_wp2
            go_round
            case rel => exact ⟨j + 1, by omega, by go_num, by rw [HN.out]⟩
            case measure => simp [intOf]; omega
          · have HN : Hid (Pl.F l (j + 1) = f + (t + 1)) := by
              show _ = _
              simp only [Pl.F]; rw [← HF.out, h3]
            clear h3 ht
            go_wp2
            go_round
            case rel => exact ⟨j + 1, by omega, by go_num, by rw [HN.out]; go_num⟩
            case measure => simp [intOf]; omega
      · go_wp2_with fail
        all_goals
          refine (idx_at g f f e (cap - f) (fun _ => rfl) l _ hll hF HBL.out HCL.out).mono ?_
          rintro e' w' ⟨⟨v, rfl, hv⟩, rfl⟩
          have HJ : Hid (Pl.F l col = f) := by
            show _ = _
            rw [HF.out, show col = j from by omega]
          obtain ⟨t, ht⟩ : ∃ t, t = Pl.fLen (l.drop f) := ⟨_, rfl⟩
          rw [← ht] at hv
          have HT := show Hid _ from ht
          clear ht
          rcases hv with ⟨rfl, h2, h3⟩ | ⟨rfl, h2, h3⟩
          · have H2 := show Hid _ from h2
            clear h2 h3
            go_wp2
            go_ret2
            exact ⟨ret_two (by rw [HJ.out]) (by rw [HJ.out, ← HT.out, H2.out]), rfl⟩
          · clear h3
            go_wp2
            go_ret2
            exact ⟨ret_two (by rw [HJ.out]) (by rw [HJ.out, ← HT.out]; omega), rfl⟩
  · have k2' := k2.symm
    subst k2'
    rw [show n - 1 = e from by omega] at hcell1
    go_wp2
    go_loop [4, 35] (fun f t => ∃ j : Nat, j ≤ col ∧ t = .int .i64 j ∧ f = .int .i64 (Pl.F l j : Nat)) (fun _ t => col - (intOf t).toNat)
    case atStart => exact ⟨0, by omega, by go_num, by simp [Pl.F]⟩
    case round =>
      obtain ⟨j, hj, rfl, rfl⟩ := hrel
      have hF : Pl.F l j ≤ e := by have := Pl.F_le l j; omega
      obtain ⟨f, hf⟩ : ∃ f, f = Pl.F l j := ⟨_, rfl⟩
      rw [← hf] at hF
      rw [← hf]
      have HF : Hid (f = Pl.F l j) := hf
      clear hf
      by_cases hjc : j < col
      · go_wp2_with fail
        all_goals
          refine (idx_at g f f e (cap - f) (fun _ => rfl) l _ hll hF HBL.out HCL.out).mono ?_
          rintro e' w' ⟨⟨v, rfl, hv⟩, rfl⟩
          obtain ⟨t, ht⟩ : ∃ t, t = Pl.fLen (l.drop f) := ⟨_, rfl⟩
          rw [← ht] at hv
          rcases hv with ⟨rfl, h2, h3⟩ | ⟨rfl, h2, h3⟩
          · have HN : Hid (Pl.F l (j + 1) = f) := by
              show _ = _
              simp only [Pl.F]; rw [← HF.out, h3]; rfl
            clear h3 ht h2
            go_wp2
            go_round
            case rel => exact ⟨j + 1, by omega, by go_num, by rw [HN.out]⟩
            case measure => simp [intOf]; omega
          · have HN : Hid (Pl.F l (j + 1) = f + (t + 1)) := by
              show _ = _
              simp only [Pl.F]; rw [← HF.out, h3]
            clear h3 ht
            go_wp2
            go_round
            case rel => exact ⟨j + 1, by omega, by go_num, by rw [HN.out]; go_num⟩
            case measure => simp [intOf]; omega
      · go_wp2_with fail
        all_goals
          refine (idx_at g f f e (cap - f) (fun _ => rfl) l _ hll hF HBL.out HCL.out).mono ?_
          rintro e' w' ⟨⟨v, rfl, hv⟩, rfl⟩
          have HJ : Hid (Pl.F l col = f) := by
            show _ = _
            rw [HF.out, show col = j from by omega]
          obtain ⟨t, ht⟩ : ∃ t, t = Pl.fLen (l.drop f) := ⟨_, rfl⟩
          rw [← ht] at hv
          have HT := show Hid _ from ht
          clear ht
          rcases hv with ⟨rfl, h2, h3⟩ | ⟨rfl, h2, h3⟩
          · have H2 := show Hid _ from h2
            clear h2 h3
            go_wp2
            go_ret2
            exact ⟨ret_two (by rw [HJ.out]) (by rw [HJ.out, ← HT.out, H2.out]), rfl⟩
          · clear h3
            go_wp2
            go_ret2
            exact ⟨ret_two (by rw [HJ.out]) (by rw [HJ.out, ← HT.out]; omega), rfl⟩
  · have k2' := k2.symm
    subst k2'
    have k4' := k4.symm
    subst k4'
    go_wp2
    go_loop [4, 35] (fun f t => ∃ j : Nat, j ≤ col ∧ t = .int .i64 j ∧ f = .int .i64 (Pl.F l j : Nat)) (fun _ t => col - (intOf t).toNat)
    case atStart => exact ⟨0, by omega, by go_num, by simp [Pl.F]⟩
    case round =>
      obtain ⟨j, hj, rfl, rfl⟩ := hrel
      have hF : Pl.F l j ≤ n := by have := Pl.F_le l j; omega
      obtain ⟨f, hf⟩ : ∃ f, f = Pl.F l j := ⟨_, rfl⟩
      rw [← hf] at hF
      rw [← hf]
      have HF : Hid (f = Pl.F l j) := hf
      clear hf
      by_cases hfc : f < cap
      · by_cases hjc : j < col
        · go_wp2_with fail
          all_goals
            refine (idx_at g f f n (cap - f) (fun _ => rfl) l _ hll hF HBL.out HCL.out).mono ?_
            rintro e' w' ⟨⟨v, rfl, hv⟩, rfl⟩
            obtain ⟨t, ht⟩ : ∃ t, t = Pl.fLen (l.drop f) := ⟨_, rfl⟩
            rw [← ht] at hv
            rcases hv with ⟨rfl, h2, h3⟩ | ⟨rfl, h2, h3⟩
            · have HN : Hid (Pl.F l (j + 1) = f) := by
                show _ = _
                simp only [Pl.F]; rw [← HF.out, h3]; rfl
              clear h3 ht h2
              go_wp2
              go_round
              case rel => exact ⟨j + 1, by omega, by go_num, by rw [HN.out]⟩
              case measure => simp [intOf]; omega
            · have HN : Hid (Pl.F l (j + 1) = f + (t + 1)) := by
                show _ = _
                simp only [Pl.F]; rw [← HF.out, h3]
              clear h3 ht
              go_wp2
              go_round
              case rel => exact ⟨j + 1, by omega, by go_num, by rw [HN.out]; go_num⟩
              case measure => simp [intOf]; omega
        · go_wp2_with fail
          all_goals
            refine (idx_at g f f n (cap - f) (fun _ => rfl) l _ hll hF HBL.out HCL.out).mono ?_
            rintro e' w' ⟨⟨v, rfl, hv⟩, rfl⟩
            have HJ : Hid (Pl.F l col = f) := by
              show _ = _
              rw [HF.out, show col = j from by omega]
            obtain ⟨t, ht⟩ : ∃ t, t = Pl.fLen (l.drop f) := ⟨_, rfl⟩
            rw [← ht] at hv
            have HT := show Hid _ from ht
            clear ht
            rcases hv with ⟨rfl, h2, h3⟩ | ⟨rfl, h2, h3⟩
            · have H2 := show Hid _ from h2
              clear h2 h3
              go_wp2
              go_ret2
              exact ⟨ret_two (by rw [HJ.out]) (by rw [HJ.out, ← HT.out, H2.out]), rfl⟩
            · clear h3
              go_wp2
              go_ret2
              exact ⟨ret_two (by rw [HJ.out]) (by rw [HJ.out, ← HT.out]; omega), rfl⟩
      · by_cases hjc : j < col
        · go_wp2_with fail
          all_goals
            refine (idx_at g f 0 n (cap - f) (fun _ => by omega) l _ hll hF HBL.out HCL.out).mono ?_
            rintro e' w' ⟨⟨v, rfl, hv⟩, rfl⟩
            obtain ⟨t, ht⟩ : ∃ t, t = Pl.fLen (l.drop f) := ⟨_, rfl⟩
            rw [← ht] at hv
            rcases hv with ⟨rfl, h2, h3⟩ | ⟨rfl, h2, h3⟩
            · have HN : Hid (Pl.F l (j + 1) = f) := by
                show _ = _
                simp only [Pl.F]; rw [← HF.out, h3]; rfl
              clear h3 ht h2
              go_wp2
              go_round
              case rel => exact ⟨j + 1, by omega, by go_num, by rw [HN.out]⟩
              case measure => simp [intOf]; omega
            · have HN : Hid (Pl.F l (j + 1) = f + (t + 1)) := by
                show _ = _
                simp only [Pl.F]; rw [← HF.out, h3]
              clear h3 ht
              go_wp2
              go_round
              case rel => exact ⟨j + 1, by omega, by go_num, by rw [HN.out]; go_num⟩
              case measure => simp [intOf]; omega
        · go_wp2_with fail
          all_goals
            refine (idx_at g f 0 n (cap - f) (fun _ => by omega) l _ hll hF HBL.out HCL.out).mono ?_
            rintro e' w' ⟨⟨v, rfl, hv⟩, rfl⟩
            have HJ : Hid (Pl.F l col = f) := by
              show _ = _
              rw [HF.out, show col = j from by omega]
            obtain ⟨t, ht⟩ : ∃ t, t = Pl.fLen (l.drop f) := ⟨_, rfl⟩
            rw [← ht] at hv
            have HT := show Hid _ from ht
            clear ht
            rcases hv with ⟨rfl, h2, h3⟩ | ⟨rfl, h2, h3⟩
            · have H2 := show Hid _ from h2
              clear h2 h3
              go_wp2
              go_ret2
              exact ⟨ret_two (by rw [HJ.out]) (by rw [HJ.out, ← HT.out, H2.out]), rfl⟩
            · clear h3
              go_wp2
              go_ret2
              exact ⟨ret_two (by rw [HJ.out]) (by rw [HJ.out, ← HT.out]; omega), rfl⟩
end Go.Proofs.Qxb6600576a
