/-
  THE WALKS: the size guards, isSpaceByte.
-/
import Derived.Test.Qxb6600826aWalkF
namespace Go.Proofs.Qxb6600826a
open Go.RowKit
set_option linter.unusedSimpArgs false
set_option linter.unusedVariables false

/-- What a slice of bytes that came in is. -/
def RowB (w : World) (a : Option Addr) (len cap : Nat) (zs : List Int) : Prop :=
  (a = none ∧ len = 0 ∧ cap = 0 ∧ zs = []) ∨
  ∃ x, a = some x ∧ len ≤ cap ∧ cap ≤ maxLen ∧ zs.length = cap ∧ (∀ i, i < zs.length → w.cell? (x.add i) = some (.int .u8 (zs.getD i 0))) ∧ ∀ n ∈ zs, (Lit.int .u8 n).wf = true

/-- What a slice of strings that came in is. -/
def RowS (w : World) (a : Option Addr) (len cap : Nat) (ss : List ByteArray) : Prop :=
  (a = none ∧ len = 0 ∧ cap = 0 ∧ ss = []) ∨
  ∃ x, a = some x ∧ len ≤ cap ∧ cap ≤ maxLen ∧ ss.length = cap ∧ (∀ i, i < ss.length → w.cell? (x.add i) = some (.string (ss.getD i ByteArray.empty))) ∧ ∀ s ∈ ss, s.size ≤ maxLen

theorem strs_at {w : World} {a : Addr} {ss : List ByteArray} (h : ∀ i, i < ss.length → w.cell? (a.add i) = some (.string (ss.getD i ByteArray.empty))) (hp : 0 < ss.length) :
    ∃ b off, a = ⟨b, off, none⟩ ∧ ∀ j, j < ss.length → w.cell? ⟨b, off + j, none⟩ = some (.string (ss.getD j ByteArray.empty)) := by
  obtain ⟨b, off, spot⟩ := a
  have hspot : spot = none := by simpa [Addr.add] using World.cell?_spot (h 0 hp)
  subst hspot
  exact ⟨b, off, rfl, fun j hj => by rw [← Go.WideShapes.add_plain]; exact h j hj⟩

theorem getD_take_s (ss : List ByteArray) (n k : Nat) (h : k < n) : (ss.take n).getD k ByteArray.empty = ss.getD k ByteArray.empty := by
  simp [List.getD_eq_getElem?_getD, List.getElem?_take, h]
theorem getD_take_b (ss : List Int) (n k : Nat) (h : k < n) : (ss.take n).getD k 0 = ss.getD k 0 := by
  simp [List.getD_eq_getElem?_getD, List.getElem?_take, h]

theorem rowS_cells {w : World} {a : Option Addr} {len cap : Nat} {ss : List ByteArray} (h : RowS w a len cap ss) :
    len ≤ maxLen ∧ (ss.take len).length = len ∧ (∀ k, ((ss.take len).getD k ByteArray.empty).size ≤ maxLen) ∧
    (0 < len → ∃ b off, a = some ⟨b, off, none⟩ ∧ ∀ k, k < len → w.cell? ⟨b, off + k, none⟩ = some (.string ((ss.take len).getD k ByteArray.empty))) := by
  rcases h with ⟨rfl, rfl, rfl, rfl⟩ | ⟨x, rfl, hl, hm, hz, hcell, hwf⟩
  · refine ⟨by unfold maxLen; omega, rfl, ?_, fun h => by omega⟩
    intro k
    simp [List.getD_eq_getElem?_getD]
  · refine ⟨by omega, by simp; omega, ?_, fun hp => ?_⟩
    · intro k
      by_cases hk : k < (ss.take len).length
      · have : (ss.take len).getD k ByteArray.empty ∈ ss.take len := by
          rw [List.getD_eq_getElem?_getD, List.getElem?_eq_getElem hk]
          exact List.getElem_mem hk
        exact hwf _ (List.mem_of_mem_take this)
      · simp [List.getD_eq_getElem?_getD, List.getElem?_eq_none (Nat.le_of_not_lt hk)]
    · obtain ⟨b, off, rfl, hc⟩ := strs_at hcell (by omega)
      exact ⟨b, off, rfl, fun k hk => by rw [hc k (by omega), getD_take_s _ _ _ hk]⟩

theorem rowB_cells {w : World} {a : Option Addr} {len cap : Nat} {zs : List Int} (h : RowB w a len cap zs) :
    len ≤ maxLen ∧ (zs.take len).length = len ∧ (∀ k, k < len → 0 ≤ (zs.take len).getD k 0 ∧ (zs.take len).getD k 0 ≤ 255) ∧
    (0 < len → ∃ b off, a = some ⟨b, off, none⟩ ∧ ∀ k, k < len → w.cell? ⟨b, off + k, none⟩ = some (.int .u8 ((zs.take len).getD k 0))) := by
  rcases h with ⟨rfl, rfl, rfl, rfl⟩ | ⟨x, rfl, hl, hm, hz, hcell, hwf⟩
  · exact ⟨by unfold maxLen; omega, rfl, fun k hk => by omega, fun h => by omega⟩
  · refine ⟨by omega, by simp; omega, fun k hk => ?_, fun hp => ?_⟩
    · rw [getD_take_b _ _ _ hk]
      have hk' : k < zs.length := by omega
      have := bounds_u8 (hwf zs[k] (List.getElem_mem hk'))
      simpa [List.getD_eq_getElem?_getD, hk'] using this
    · obtain ⟨b, off, rfl, hc⟩ := ints_at hcell (by omega)
      exact ⟨b, off, rfl, fun k hk => by rw [hc k (by omega), getD_take_b _ _ _ hk]⟩

def AnyBool (e : Ending) : Prop := ∃ b, e = .returned (.bool b)
theorem anyBool (b : Bool) : AnyBool (.returned (.bool b)) := ⟨b, rfl⟩

/-- What piecesFit's answer says. -/
def Fits (n0 n1 tl : Nat) (S : List ByteArray) (e : Ending) : Prop := ∃ b, e = .returned (.bool b) ∧ (b = true → n0 ≤ 1048576 ∧ n1 ≤ 65536 ∧ tl ≤ 1048576 ∧ sz S n1 ≤ 1048576)
theorem fits_no (n0 n1 tl : Nat) (S : List ByteArray) : Fits n0 n1 tl S (.returned (.bool false)) := ⟨false, rfl, fun h => by cases h⟩

set_option maxRecDepth 100000 in
set_option maxHeartbeats 1000000 in
theorem bytes_any (a0 a1 : Option Addr) (n0 c0 n1 c1 : Nat) (c : Int) (tl : ByteArray) (S : List ByteArray) (w : World) (m0 : n0 ≤ maxLen) (m1 : n1 ≤ maxLen) (mt : tl.size ≤ maxLen) (hS : ∀ k, (S.getD k ByteArray.empty).size ≤ maxLen)
    (hX : 0 < n1 → ∃ b off, a1 = some ⟨b, off, none⟩ ∧ ∀ k, k < n1 → w.cell? ⟨b, off + k, none⟩ = some (.string (S.getD k ByteArray.empty))) :
    Calls Try.prog 14 #[.slice a0 n0 c0, .slice a1 n1 c1, .int .u8 c, .string tl] w fun e w' => AnyBool e ∧ w' = w := by
  have HX := show Hid _ from hX
  have HS := show Hid _ from hS
  unfold maxLen at m0 m1 mt
  clear hX hS
  by_cases hl : n0 ≤ 1048576 ∧ n1 ≤ 1048576 ∧ n0 + n1 ≤ 1048576
  · obtain ⟨h1, h2, h3⟩ := hl
    go_enter Try.func14, Try.ntmps14
    go_wp2
    go_loop [9, 10] (fun z i => ∃ k zz : Nat, k ≤ n1 ∧ zz ≤ 1048576 ∧ i = .int .i64 k ∧ z = .int .i64 zz) (fun _ i => n1 - (intOf i).toNat)
    case atStart => exact ⟨0, n0 + n1, by omega, by omega, by go_num, by go_num⟩
    case round =>
      obtain ⟨k, zz, hk, hzz, rfl, rfl⟩ := hrel
      by_cases hkl : k < n1
      · obtain ⟨b, off, rfl, hcc⟩ := HX.out (by omega)
        have hs := HS.out k
        unfold maxLen at hs
        obtain ⟨s, hsd⟩ : ∃ s, s = S.getD k ByteArray.empty := ⟨_, rfl⟩
        rw [← hsd] at hs
        have hcell : w.cell? ⟨b, off + k, none⟩ = some (.string s) := by rw [hcc k hkl, hsd]
        clear hcc hsd
        go_wp2
        all_goals first
          | (go_ret; exact ⟨anyBool _, rfl⟩)
          | (go_round
             case rel => exact ⟨k + 1, zz + s.size, by omega, by omega, by go_num, by go_num⟩
             case measure => simp [intOf]; omega)
      · go_wp2
        all_goals (go_ret; exact ⟨anyBool _, rfl⟩)
  · go_enter Try.func14, Try.ntmps14
    go_wp2
    all_goals (go_ret; exact ⟨anyBool _, rfl⟩)

set_option maxRecDepth 100000 in
set_option maxHeartbeats 1000000 in
theorem fits_any (a0 a1 : Option Addr) (n0 c0 n1 c1 : Nat) (tl : ByteArray) (S : List ByteArray) (w : World) (m0 : n0 ≤ maxLen) (m1 : n1 ≤ maxLen) (mt : tl.size ≤ maxLen) (hS : ∀ k, (S.getD k ByteArray.empty).size ≤ maxLen)
    (hX : 0 < n1 → ∃ b off, a1 = some ⟨b, off, none⟩ ∧ ∀ k, k < n1 → w.cell? ⟨b, off + k, none⟩ = some (.string (S.getD k ByteArray.empty))) :
    Calls Try.prog 15 #[.slice a0 n0 c0, .slice a1 n1 c1, .string tl] w fun e w' => Fits n0 n1 tl.size S e ∧ w' = w := by
  have HX := show Hid _ from hX
  have HS := show Hid _ from hS
  unfold maxLen at m0 m1 mt
  clear hX hS
  by_cases g0 : n0 ≤ 1048576
  · by_cases g1 : n1 ≤ 65536
    · by_cases g2 : tl.size ≤ 1048576
      · by_cases g3 : n0 + tl.size + 16 * n1 ≤ 1048576
        · have k0 : decide ((1048576 : Int) < (n0 : Int)) = false := decide_eq_false (by omega)
          have k1 : decide ((65536 : Int) < (n1 : Int)) = false := decide_eq_false (by omega)
          have k2 : decide ((1048576 : Int) < (tl.size : Int)) = false := decide_eq_false (by omega)
          go_enter Try.func15, Try.ntmps15
          go_wp2
          go_loop [7, 8] (fun z i => ∃ k zz : Nat, k ≤ n1 ∧ zz ≤ 1048576 ∧ i = .int .i64 k ∧ z = .int .i64 zz ∧ Hid (sz S k ≤ zz)) (fun _ i => n1 - (intOf i).toNat)
          case atStart => exact ⟨0, n0 + tl.size + 16 * n1, by omega, by omega, by go_num, by go_num, Nat.zero_le _⟩
          case round =>
            obtain ⟨k, zz, hk, hzz, rfl, rfl, HZ⟩ := hrel
            by_cases hkl : k < n1
            · obtain ⟨b, off, rfl, hcc⟩ := HX.out (by omega)
              have hs := HS.out k
              unfold maxLen at hs
              obtain ⟨s, hsd⟩ : ∃ s, s = S.getD k ByteArray.empty := ⟨_, rfl⟩
              rw [← hsd] at hs
              have hcell : w.cell? ⟨b, off + k, none⟩ = some (.string s) := by rw [hcc k hkl, hsd]
              have HZ2 : Hid (sz S (k + 1) ≤ zz + s.size) := by
                show _ ≤ _
                have := HZ.out
                simp only [sz]
                rw [← hsd]; omega
              clear hcc hsd
              go_wp2
              all_goals first
                | (go_ret; exact ⟨fits_no _ _ _ _, rfl⟩)
                | (go_round
                   case rel => exact ⟨k + 1, zz + s.size, by omega, by omega, by go_num, by go_num, HZ2⟩
                   case measure => simp [intOf]; omega)
            · go_wp2
              go_ret
              exact ⟨⟨true, rfl, fun _ => ⟨g0, g1, g2, by have h := HZ.out; rw [show k = n1 from by omega] at h; omega⟩⟩, rfl⟩
        · have k0 : decide ((1048576 : Int) < (n0 : Int)) = false := decide_eq_false (by omega)
          have k1 : decide ((65536 : Int) < (n1 : Int)) = false := decide_eq_false (by omega)
          have k2 : decide ((1048576 : Int) < (tl.size : Int)) = false := decide_eq_false (by omega)
          go_enter Try.func15, Try.ntmps15
          go_wp2
          go_ret
          exact ⟨fits_no _ _ _ _, rfl⟩
      · have k0 : decide ((1048576 : Int) < (n0 : Int)) = false := decide_eq_false (by omega)
        have k1 : decide ((65536 : Int) < (n1 : Int)) = false := decide_eq_false (by omega)
        have k2 : decide ((1048576 : Int) < (tl.size : Int)) = true := decide_eq_true (by omega)
        go_enter Try.func15, Try.ntmps15
        go_wp2
        go_ret
        exact ⟨fits_no _ _ _ _, rfl⟩
    · have k0 : decide ((1048576 : Int) < (n0 : Int)) = false := decide_eq_false (by omega)
      have k1 : decide ((65536 : Int) < (n1 : Int)) = true := decide_eq_true (by omega)
      go_enter Try.func15, Try.ntmps15
      go_wp2
      go_ret
      exact ⟨fits_no _ _ _ _, rfl⟩
  · have k0 : decide ((1048576 : Int) < (n0 : Int)) = true := decide_eq_true (by omega)
    go_enter Try.func15, Try.ntmps15
    go_wp2
    go_ret
    exact ⟨fits_no _ _ _ _, rfl⟩

set_option maxRecDepth 100000 in
set_option maxHeartbeats 1000000 in
theorem space_any (c : Int) (w : World) : Calls Try.prog 16 #[.int .u8 c] w fun e w' => e = .returned (.bool (Pl.space c)) ∧ w' = w := by
  obtain ⟨R, hR⟩ : ∃ R, R = Pl.space c := ⟨_, rfl⟩
  have HR : Hid (R = ((c == 32) || (c == 9) || (c == 10) || (c == 13) || (c == 12) || (c == 11))) := by
    show _ = _
    rw [hR]
    unfold Pl.space
    rw [Bool.eq_iff_iff]
    simp
  rw [← hR]
  clear hR
  cases h1 : c == 32
  · cases h2 : c == 9
    · cases h3 : c == 10
      · cases h4 : c == 13
        · cases h5 : c == 12
          · cases h6 : c == 11
            · have HR2 : Hid (R = false) := by have h := HR.out; rw [h1, h2, h3, h4, h5, h6] at h; exact h
              go_enter Try.func16, Try.ntmps16
              go_wp2
              go_ret
              exact ⟨ret_bool (by rw [HR2.out]), rfl⟩
            · have HR2 : Hid (R = true) := by have h := HR.out; rw [h1, h2, h3, h4, h5, h6] at h; exact h
              go_enter Try.func16, Try.ntmps16
              go_wp2
              go_ret
              exact ⟨ret_bool (by rw [HR2.out]), rfl⟩
          · have HR2 : Hid (R = true) := by have h := HR.out; rw [h1, h2, h3, h4, h5] at h; exact h
            go_enter Try.func16, Try.ntmps16
            go_wp2
            go_ret
            exact ⟨ret_bool (by rw [HR2.out]), rfl⟩
        · have HR2 : Hid (R = true) := by have h := HR.out; rw [h1, h2, h3, h4] at h; exact h
          go_enter Try.func16, Try.ntmps16
          go_wp2
          go_ret
          exact ⟨ret_bool (by rw [HR2.out]), rfl⟩
      · have HR2 : Hid (R = true) := by have h := HR.out; rw [h1, h2, h3] at h; exact h
        go_enter Try.func16, Try.ntmps16
        go_wp2
        go_ret
        exact ⟨ret_bool (by rw [HR2.out]), rfl⟩
    · have HR2 : Hid (R = true) := by have h := HR.out; rw [h1, h2] at h; exact h
      go_enter Try.func16, Try.ntmps16
      go_wp2
      go_ret
      exact ⟨ret_bool (by rw [HR2.out]), rfl⟩
  · have HR2 : Hid (R = true) := by have h := HR.out; rw [h1] at h; exact h
    go_enter Try.func16, Try.ntmps16
    go_wp2
    go_ret
    exact ⟨ret_bool (by rw [HR2.out]), rfl⟩
end Go.Proofs.Qxb6600826a
