/-
  THE LAW FnPlainFieldFindsJoinedField, WALKED.
-/
import Derived.Test.Qxb6600576aWalkD
namespace Go.Proofs.Qxb6600576a.Join
open Go.RowKit
set_option linter.unusedSimpArgs false
set_option linter.unusedVariables false

/-- What a slice of strings that came in is. -/
def RowS (w : World) (a : Option Addr) (len cap : Nat) (ss : List ByteArray) : Prop :=
  (a = none ∧ len = 0 ∧ cap = 0 ∧ ss = []) ∨
  ∃ x, a = some x ∧ len ≤ cap ∧ cap ≤ maxLen ∧ ss.length = cap ∧ (∀ i, i < ss.length → w.cell? (x.add i) = some (.string (ss.getD i ByteArray.empty))) ∧ ∀ s ∈ ss, s.size ≤ maxLen

theorem strs_at {w : World} {a : Addr} {ss : List ByteArray} (h : ∀ i, i < ss.length → w.cell? (a.add i) = some (.string (ss.getD i ByteArray.empty))) (hp : 0 < ss.length) :
    ∃ b off, a = ⟨b, off, none⟩ ∧ ∀ j, j < ss.length → w.cell? ⟨b, off + j, none⟩ = some (.string (ss.getD j ByteArray.empty)) := by
  obtain ⟨b, off, spot⟩ := a
  have hspot : spot = none := by simpa [Addr.add] using World.cell?_spot (h 0 hp)
  subst hspot
  exact ⟨b, off, rfl, fun j hj => by rw [← Go.WideShapes.add_plain]; exact h j hj⟩

theorem getD_take_s (ss : List ByteArray) (n k : Nat) (h : k < n) : (ss.take n).getD k ByteArray.empty = ss.getD k ByteArray.empty := by
  simp [List.getD_eq_getElem?_getD, List.getElem?_take, h]

theorem rowS_cells {w : World} {a : Option Addr} {len cap : Nat} {ss : List ByteArray} (h : RowS w a len cap ss) :
    len ≤ maxLen ∧ (ss.take len).length = len ∧ (∀ k, ((ss.take len).getD k ByteArray.empty).size ≤ maxLen) ∧
    (0 < len → ∃ b off, a = some ⟨b, off, none⟩ ∧ ∀ k, k < len → w.cell? ⟨b, off + k, none⟩ = some (.string ((ss.take len).getD k ByteArray.empty))) := by
  rcases h with ⟨rfl, rfl, rfl, rfl⟩ | ⟨x, rfl, hl, hm, hz, hcell, hwf⟩
  · refine ⟨by unfold maxLen; omega, rfl, ?_, fun h => by omega⟩
    intro k
    simp [List.getD_eq_getElem?_getD]
  · refine ⟨by omega, by simp; omega, ?_, fun hp => ?_⟩
    · intro k
      by_cases hk : k < (ss.take len).length
      · have : (ss.take len).getD k ByteArray.empty ∈ ss.take len := by
          rw [List.getD_eq_getElem?_getD, List.getElem?_eq_getElem hk]
          exact List.getElem_mem hk
        exact hwf _ (List.mem_of_mem_take this)
      · simp [List.getD_eq_getElem?_getD, List.getElem?_eq_none (Nat.le_of_not_lt hk)]
    · obtain ⟨b, off, rfl, hc⟩ := strs_at hcell (by omega)
      exact ⟨b, off, rfl, fun k hk => by rw [hc k (by omega), getD_take_s _ _ _ hk]⟩

/-- What the size guard answers. -/
def Guards (len0 : Nat) (S : List ByteArray) (e : Ending) : Prop := ∃ b, e = .returned (.bool b) ∧ (b = true → len0 ≤ 1048576 ∧ ∀ k, k < len0 → (S.getD k ByteArray.empty).size ≤ 1048576)

theorem guards_no (len0 : Nat) (S : List ByteArray) : Guards len0 S (.returned (.bool false)) := ⟨false, rfl, fun h => by cases h⟩

set_option maxHeartbeats 400000 in
/-- the program's own size guard -/
theorem bytes_any (a0 : Option Addr) (len0 cap0 : Nat) (a1 a2 : Int) (S : List ByteArray) (w : World) (hm : len0 ≤ maxLen) (hS : ∀ k, (S.getD k ByteArray.empty).size ≤ maxLen)
    (hX : 0 < len0 → ∃ b off, a0 = some ⟨b, off, none⟩ ∧ ∀ k, k < len0 → w.cell? ⟨b, off + k, none⟩ = some (.string (S.getD k ByteArray.empty))) :
    Calls Try.prog 13 #[.slice a0 len0 cap0, .int .u8 a1, .int .i64 a2] w fun e w' => Guards len0 S e ∧ w' = w := by
  have HX := show Hid _ from hX
  have HS := show Hid _ from hS
  unfold maxLen at hm
  clear hX hS
  by_cases hl : len0 ≤ 1048576
  · go_enter Try.func13, Try.ntmps13
    go_wp2
    go_loop [7, 8] (fun z i => ∃ k zz : Nat, k ≤ len0 ∧ zz ≤ 1048576 ∧ i = .int .i64 k ∧ z = .int .i64 zz ∧ Hid (∀ j, j < k → (S.getD j ByteArray.empty).size ≤ 1048576)) (fun _ i => len0 - (intOf i).toNat)
    case atStart => exact ⟨0, len0, by omega, by omega, by go_num, by go_num, fun j hj => by omega⟩
    case round =>
      obtain ⟨k, zz, hk, hzz, rfl, rfl, HK⟩ := hrel
      by_cases hkl : k < len0
      · obtain ⟨b, off, rfl, hcc⟩ := HX.out (by omega)
        have hs := HS.out k
        unfold maxLen at hs
        obtain ⟨s, hsd⟩ : ∃ s, s = S.getD k ByteArray.empty := ⟨_, rfl⟩
        rw [← hsd] at hs
        have hcell : w.cell? ⟨b, off + k, none⟩ = some (.string s) := by rw [hcc k hkl, hsd]
        have HSD : Hid (s = S.getD k ByteArray.empty) := hsd
        clear hcc hsd
        go_wp2
        all_goals first
          | (go_ret; exact ⟨guards_no len0 S, rfl⟩)
          | (go_round
             case rel =>
               refine ⟨k + 1, zz + s.size, by omega, by omega, by go_num, by go_num, fun j hj => ?_⟩
               by_cases hjk : j < k
               · exact HK.out j hjk
               · obtain rfl : j = k := by omega
                 rw [← HSD.out]; omega
             case measure => simp [intOf]; omega)
      · go_wp2
        go_ret
        exact ⟨⟨true, rfl, fun _ => ⟨hl, fun j hj => HK.out j (by omega)⟩⟩, rfl⟩
  · go_enter Try.func13, Try.ntmps13
    go_wp2
    go_ret
    exact ⟨guards_no len0 S, rfl⟩
end Go.Proofs.Qxb6600576a.Join
