/-
  THE WALKS: strings.HasPrefix at two bytes, blockCommentEnd, isEmptyQuery.
-/
import Derived.Test.Qxb6600826aWalkB
namespace Go.Proofs.Qxb6600826a
open Go.RowKit
set_option linter.unusedSimpArgs false
set_option linter.unusedVariables false

/-- A string's bytes as numbers. -/
def bs (s : ByteArray) : List Int := s.data.toList.map fun b => (b.toNat : Int)

theorem bs_length (s : ByteArray) : (bs s).length = s.size := by
  rw [bs, List.length_map, Array.length_toList]
  rfl

theorem bs_get (s : ByteArray) (k : Nat) (h : k < s.size) : (bs s).getD k 0 = ((s[k]'h).toNat : Int) := by
  have hl : k < s.data.toList.length := by rw [Array.length_toList]; exact h
  have e : s[k]'h = s.data.toList[k] := by
    simp
    rfl
  rw [e]
  simp only [bs, List.getD_eq_getElem?_getD, List.getElem?_map]
  rw [List.getElem?_eq_getElem hl]
  rfl

theorem indexAny_nl (l : List UInt8) : Lib.indexAny l [10, 13] = match Pl.nl (l.map fun b => (b.toNat : Int)) with | none => -1 | some e => (e : Int) := by
  induction l with
  | nil => rfl
  | cons b r ih =>
    have hc : ([10, 13] : List UInt8).contains b = decide ((b.toNat : Int) = 10 ∨ (b.toNat : Int) = 13) := by
      rw [Bool.eq_iff_iff]
      simp [← UInt8.toNat_inj]
      omega
    rw [Lib.indexAny, hc, ih]
    simp only [List.map_cons, Pl.nl]
    by_cases h : (b.toNat : Int) = 10 ∨ (b.toNat : Int) = 13
    · simp [h]
    · rw [decide_eq_false h, if_neg h]
      cases Pl.nl (r.map fun b => (b.toNat : Int)) with
      | none => simp
      | some e => simp

theorem bs_eq_pair (l : List UInt8) (a b : UInt8) : (l == [a, b]) = decide ((l.map fun b => (b.toNat : Int)) = [(a.toNat : Int), (b.toNat : Int)]) := by
  rw [Bool.eq_iff_iff, beq_iff_eq, decide_eq_true_iff]
  constructor
  · intro h; subst h; rfl
  · intro h
    match l, h with
    | [], h => simp at h
    | [x], h => simp at h
    | x :: y :: z :: t, h => simp at h
    | [x, y], h =>
      simp only [List.map_cons, List.map_nil, List.cons.injEq, and_true] at h
      have h1 : x = a := UInt8.toNat_inj.1 (by have := h.1; omega)
      have h2 : y = b := UInt8.toNat_inj.1 (by have := h.2; omega)
      rw [h1, h2]

theorem ext_eq (s : ByteArray) (i j : Nat) (a b : UInt8) : ((s.extract i j).toList == [a, b]) = decide (((bs s).drop i).take (j - i) = [(a.toNat : Int), (b.toNat : Int)]) := by
  have e : (((s.data.toList.drop i).take (j - i)).map fun b => (b.toNat : Int)) = ((bs s).drop i).take (j - i) := by simp [bs, List.map_take, List.map_drop]
  rw [Lib.toList_data, Lib.extract_data, bs_eq_pair, e]

theorem bs_rest (s : ByteArray) (k : Nat) : bs (s.extract k s.size) = (bs s).drop k := by
  rw [bs, Lib.extract_to_end, List.map_drop]; rfl

theorem ret_bool {a b : Bool} (h : a = b) : Ending.returned (.bool a) = .returned (.bool b) := by rw [h]

theorem indexAny_any (s : ByteArray) (w : World) (hs : s.size < 4294967281) :
    Calls Try.prog 34 #[.string s, .string { data := #[10, 13] }] w fun e w' => e = .returned (.int .i64 (match Pl.nl (bs s) with | none => -1 | some e => (e : Int))) ∧ Below w.heap.size w w' := by
  have h := indexAny_nl s.data.toList
  rw [show (s.data.toList.map fun b => (b.toNat : Int)) = bs s from rfl] at h
  rw [← h]
  by_cases h8 : 8 < s.size
  · exact indexAny_long s w h8 hs
  · exact indexAny_short s w (by omega)

set_option maxHeartbeats 400000 in
theorem hasPrefix2 (s : ByteArray) (a b : UInt8) (w : World) (hs : s.size ≤ 1099511627776) :
    Calls Try.prog 33 #[.string s, .string { data := #[a, b] }] w fun e w' => e = .returned (.bool (decide ((bs s).take 2 = [(a.toNat : Int), (b.toNat : Int)]))) ∧ w' = w := by
  by_cases h2 : 2 ≤ s.size
  · have HE : Hid (((s.extract 0 2).toList == [a, b]) = decide ((bs s).take 2 = [(a.toNat : Int), (b.toNat : Int)])) := by
      have := ext_eq s 0 2 a b
      rw [List.drop_zero] at this
      exact this
    go_enter Try.func33, Try.ntmps33
    go_wp2
    go_ret
    exact ⟨ret_bool HE.out, rfl⟩
  · have HE : Hid (false = decide ((bs s).take 2 = [(a.toNat : Int), (b.toNat : Int)])) := by
      refine Eq.symm (decide_eq_false ?_)
      intro h
      have h1 := congrArg List.length h
      simp [bs_length] at h1
      omega
    go_enter Try.func33, Try.ntmps33
    go_wp2
    go_ret
    exact ⟨ret_bool HE.out, rfl⟩

/-! ### blockCommentEnd -/
theorem drop_two (d : List Int) (k : Nat) (h : k + 1 < d.length) : d.drop k = d.getD k 0 :: d.getD (k + 1) 0 :: d.drop (k + 2) := by
  rw [List.drop_eq_getElem_cons (by omega : k < d.length), List.drop_eq_getElem_cons h]
  simp [List.getD_eq_getElem?_getD, h, (by omega : k < d.length)]

theorem bc_end (d : List Int) (k : Nat) (dep : Int) (h : ¬ k + 1 < d.length) : Pl.bc dep (d.drop k) = none := by
  by_cases hk : k < d.length
  · rw [List.drop_eq_getElem_cons hk, List.drop_of_length_le (by omega)]; simp [Pl.bc]
  · rw [List.drop_of_length_le (by omega)]; simp [Pl.bc]

theorem take_two (d : List Int) (k : Nat) (h : k + 1 < d.length) (a b : Int) : (((d.drop k).take 2 = [a, b]) ↔ (d.getD k 0 = a ∧ d.getD (k + 1) 0 = b)) := by
  rw [drop_two d k h]; simp

/-- what blockCommentEnd answers -/
def bcv (o : Option Nat) : Int := match o with | none => -1 | some e => (e : Int)

set_option maxHeartbeats 1000000 in
theorem bce_any (s : ByteArray) (w : World) (hs : s.size ≤ 1099511627776) :
    Calls Try.prog 26 #[.string s] w fun e w' => e = .returned (.int .i64 (bcv (Pl.bc 0 (bs s)))) ∧ w' = w := by
  obtain ⟨R, hR⟩ : ∃ R, R = bcv (Pl.bc 0 (bs s)) := ⟨_, rfl⟩
  rw [← hR]
  have HR : Hid (R = bcv ((Pl.bc 0 ((bs s).drop 0)).map (· + 0))) := by
    show _ = _
    rw [hR]; simp
  clear hR
  go_enter Try.func26, Try.ntmps26
  go_wp2
  go_loop [3, 4] (fun dp i => ∃ (k : Nat) (dep : Int), k ≤ s.size ∧ -(k : Int) ≤ dep ∧ dep ≤ k ∧ dp = .int .i64 dep ∧ i = .int .i64 k ∧ Hid (R = bcv ((Pl.bc dep ((bs s).drop k)).map (· + k)))) (fun _ i => s.size - (intOf i).toNat)
  case atStart => exact ⟨0, 0, by omega, by omega, by omega, rfl, by go_num, HR⟩
  case round =>
    obtain ⟨k, dep, hk, hd1, hd2, rfl, rfl, HK⟩ := hrel
    by_cases hlt : k + 1 < s.size
    · have hl : k + 1 < (bs s).length := by rw [bs_length]; exact hlt
      have E1 := ext_eq s k (k + 2) 47 42
      have E2 := ext_eq s k (k + 2) 42 47
      rw [show k + 2 - k = 2 from by omega] at E1 E2
      by_cases ho : ((bs s).drop k).take 2 = [((47 : UInt8).toNat : Int), ((42 : UInt8).toNat : Int)]
      · rw [decide_eq_true ho] at E1
        have hg : (bs s).getD k 0 = 47 ∧ (bs s).getD (k + 1) 0 = 42 := (take_two (bs s) k hl _ _).1 ho
        have HN : Hid (R = bcv ((Pl.bc (dep + 1) ((bs s).drop (k + 2))).map (· + (k + 2)))) := by
          show _ = _
          rw [HK.out, drop_two (bs s) k hl]
          simp only [Pl.bc]
          rw [if_pos hg]
          cases Pl.bc (dep + 1) ((bs s).drop (k + 2)) <;> simp [bcv]
          omega
        clear E2 ho hg
        go_wp2
        go_round
        case rel => exact ⟨k + 2, dep + 1, by omega, by omega, by omega, rfl, by go_num, HN⟩
        case measure => simp [intOf]; omega
      · rw [decide_eq_false ho] at E1
        have hng : ¬ ((bs s).getD k 0 = 47 ∧ (bs s).getD (k + 1) 0 = 42) := fun h => ho ((take_two (bs s) k hl _ _).2 h)
        by_cases hc : ((bs s).drop k).take 2 = [((42 : UInt8).toNat : Int), ((47 : UInt8).toNat : Int)]
        · rw [decide_eq_true hc] at E2
          have hg : (bs s).getD k 0 = 42 ∧ (bs s).getD (k + 1) 0 = 47 := (take_two (bs s) k hl _ _).1 hc
          by_cases hd : dep = 1
          · have HN : Hid (R = (k : Int) + 2) := by
              show _ = _
              rw [HK.out, drop_two (bs s) k hl]
              simp only [Pl.bc]
              rw [if_neg hng, if_pos hg, if_pos (by omega)]
              simp [bcv]; omega
            have hd' : (dep - 1 == 0) = true := by rw [beq_iff_eq]; omega
            clear hd ho hc hng hg
            go_wp2
            go_ret
            exact ⟨ret_int (by rw [HN.out]), rfl⟩
          · have HN : Hid (R = bcv ((Pl.bc (dep - 1) ((bs s).drop (k + 2))).map (· + (k + 2)))) := by
              show _ = _
              rw [HK.out, drop_two (bs s) k hl]
              simp only [Pl.bc]
              rw [if_neg hng, if_pos hg, if_neg (by omega)]
              cases Pl.bc (dep - 1) ((bs s).drop (k + 2)) <;> simp [bcv]
              omega
            have hd' : (dep - 1 == 0) = false := by rw [beq_eq_false_iff_ne]; omega
            clear hd ho hc hng hg
            go_wp2
            go_round
            case rel => exact ⟨k + 2, dep - 1, by omega, by omega, by omega, rfl, by go_num, HN⟩
            case measure => simp [intOf]; omega
        · rw [decide_eq_false hc] at E2
          have hnc : ¬ ((bs s).getD k 0 = 42 ∧ (bs s).getD (k + 1) 0 = 47) := fun h => hc ((take_two (bs s) k hl _ _).2 h)
          have HN : Hid (R = bcv ((Pl.bc dep ((bs s).drop (k + 1))).map (· + (k + 1)))) := by
            show _ = _
            rw [HK.out, drop_two (bs s) k hl]
            simp only [Pl.bc]
            rw [if_neg hng, if_neg hnc]
            have e : (bs s).drop (k + 1) = (bs s).getD (k + 1) 0 :: (bs s).drop (k + 2) := by
              rw [List.drop_eq_getElem_cons hl]; simp [List.getD_eq_getElem?_getD, hl]
            rw [← e]
            cases Pl.bc dep ((bs s).drop (k + 1)) <;> simp [bcv]
            omega
          clear ho hc hng hnc
          go_wp2
          go_round
          case rel => exact ⟨k + 1, dep, by omega, by omega, by omega, rfl, by go_num, HN⟩
          case measure => simp [intOf]; omega
    · have HN : Hid (R = -1) := by
        show _ = _
        rw [HK.out, bc_end _ _ _ (by rw [bs_length]; exact hlt)]; rfl
      go_wp2
      go_ret
      exact ⟨ret_int (by rw [HN.out]), rfl⟩
end Go.Proofs.Qxb6600826a
