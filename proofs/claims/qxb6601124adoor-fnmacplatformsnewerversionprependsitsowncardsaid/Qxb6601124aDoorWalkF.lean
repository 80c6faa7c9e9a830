/-
  THE WALK: the closure of macPlatforms that appends to the tags.
-/
import Derived.Test.Qxb6601124aDoorWalkE
import Derived.Maps.AppendAt
import Derived.OneCell
import Derived.OwnWalk
namespace Go.Proofs.Qxb6601124aDoor
open Go.RowKit
set_option linter.unusedSimpArgs false
set_option linter.unusedVariables false

theorem info9 : (Tryd.prog.info? 9).map (fun i => (i.zero, i.size, i.bytes)) = some (some (.string ByteArray.empty), 1, 16) := by kernel_rfl

theorem RowAt.of_block {w w' : World} {N : Nat} {fs : List ByteArray} (h : RowAt w N fs) (hb : w'.heap[N]? = w.heap[N]?) : RowAt w' N fs := by
  refine ⟨?_, fun j hj => by rw [World.cell?_of_block (w := w) (a := ⟨N, j, none⟩) hb]; exact h.2 j hj⟩
  rcases Nat.lt_or_ge N w'.heap.size with h' | h'
  · exact h'
  · rw [Array.getElem?_eq_none h', Array.getElem?_eq_getElem h.1] at hb
    cases hb

/-- The captured tags: block T holds the slice of the texts L, a row of the call's own; the formats lie in block N; below B the world is as w0 was. -/
def Inv (B T N : Nat) (w0 w : World) (fs L : List ByteArray) (v : Value) : Prop :=
  (B ≤ w.heap.size ∧ Below B w0 w ∧ B ≤ T ∧ N ≠ T) ∧ RowAt w N fs ∧ w.heap[T]? = some (.cells #[v] 46 (0, 0)) ∧ w.ownsRow B 9 1 v L.length (L.map Value.string) ∧ v.ownBlock ≠ some N ∧ (L = [] → v = .slice none 0 0)

theorem own_ne {w : World} {B T : Nat} {v u : Value} {n : Nat} {xs : List Value} (hT : w.heap[T]? = some (.cells #[u] 46 (0, 0))) (h : w.ownsRow B 9 1 v n xs) : v.ownBlock ≠ some T := by
  intro e
  rcases h.2 with ⟨hv, _⟩ | ⟨g, cap, cur, hv, _, hh, _⟩
  · rw [hv] at e; cases e
  · rw [hv] at e
    have e' : g = T := by simpa [Value.ownBlock] using e
    rw [e', hT] at hh
    simp at hh

theorem heap_alloc_lt {w : World} {o : Obj} {k : Nat} (h : k < w.heap.size) : (w.alloc o).heap[k]? = w.heap[k]? := Below.heap_alloc w o k h

theorem alloc_size (w : World) (o : Obj) : (w.alloc o).heap.size = w.heap.size + 1 := by
  show (w.heap.push o).size = _
  simp

theorem own_slice {w : World} {B : Nat} {v : Value} {n : Nat} {xs : List Value} (h : w.ownsRow B 9 1 v n xs) : ∃ g c, v = .slice g n c := by
  rcases h.2 with ⟨hv, hn⟩ | ⟨g, cap, cur, hv, _⟩
  · exact ⟨none, 0, by rw [hv]; simp_all⟩
  · exact ⟨_, cap, hv⟩

/-- What the world behind the append holds: block T as before. -/
theorem Inv.mid {B T N : Nat} {w0 w w1 : World} {fs L : List ByteArray} {v : Value} {o : Obj} (h : Inv B T N w0 w fs L v) (hg : (w.alloc o).grownBy w1 v.ownBlock) : w1.heap[T]? = some (.cells #[v] 46 (0, 0)) := by
  obtain ⟨_, _, hT, hown, _⟩ := h
  have hlt := lt_of_block hT
  rw [hg.block T (by rw [alloc_size]; omega) (fun e => own_ne hT hown e.symm), heap_alloc_lt hlt]
  exact hT

theorem Inv.step {B T N : Nat} {w0 w w1 : World} {fs L : List ByteArray} {v v' : Value} {o : Obj} {s : ByteArray} (h : Inv B T N w0 w fs L v)
    (hown1 : w1.ownsRow B 9 1 v' (L.length + 1) (L.map Value.string ++ [Value.string s])) (hg : (w.alloc o).grownBy w1 v.ownBlock)
    (hb : v'.ownBlock = v.ownBlock ∨ v'.ownBlock = some (w.heap.size + 1)) : Inv B T N w0 (w1.setCell ⟨T, 0, none⟩ v') fs (L ++ [s]) v' := by
  have hmid := h.mid hg
  obtain ⟨⟨hB, hbel, hBT, hNT⟩, hrow, hT, hown, hvN, hnil⟩ := h
  have hTlt := lt_of_block hT
  have hbel1 : Below B w0 w1 := (hbel.alloc hB o).grown hg (by rw [alloc_size]; omega) (by
    intro k hk
    exact ((hown.alloc o).lt k hk).1)
  have hne : v'.ownBlock ≠ some T := by
    rcases hb with e | e
    · rw [e]; exact own_ne hT hown
    · rw [e]; intro e'; injection e' with e'; omega
  have hne2 : v'.ownBlock ≠ some N := by
    rcases hb with e | e
    · rw [e]; exact hvN
    · rw [e]; intro e'; injection e' with e'; have := hrow.1; omega
  refine ⟨⟨?_, hbel1.setCell hBT _, hBT, hNT⟩, ?_, one_setCell hmid, ?_, hne2, fun e => by simp at e⟩
  · have : (w1.setCell ⟨T, 0, none⟩ v').heap.size = w1.heap.size := by simp [World.setCell]
    rw [this]
    exact Nat.le_trans hB (Nat.le_trans (by rw [alloc_size]; omega) hg.size)
  · refine hrow.of_block ?_
    rw [Below.heap_setCell _ _ _ _ hNT, hg.block N (by rw [alloc_size]; have := hrow.1; omega) (fun e => hvN e.symm), heap_alloc_lt hrow.1]
  · rw [List.length_append, List.map_append]
    exact ownsRow_setCell_other hown1 hne _

theorem Inv.cast {B T N : Nat} {w0 w : World} {fs L L' : List ByteArray} {v : Value} {s s' : ByteArray} (h : Inv B T N w0 w fs (L ++ [s]) v) (e : s = s') (e2 : L ++ [s'] = L') : Inv B T N w0 w fs L' v := by
  rw [← e2, ← e]; exact h

theorem tag_eq (ver f t : ByteArray) (h : t.data.toList = [109, 97, 99, 111, 115, 120, 95] ++ ver.data.toList ++ [95] ++ f.data.toList) : t = Pl.tag ver.data.toList f := Pl.eq_mk h

theorem blk_snoc (v : List UInt8) (fs : List ByteArray) (q : Nat) (h : q < fs.length) : Pl.blk v (fs.take (q + 1)) = Pl.blk v (fs.take q) ++ [Pl.tag v (fs.getD q ByteArray.empty)] := by
  rw [List.take_succ_eq_append_getElem h]
  simp only [Pl.blk, List.map_append, List.map_cons, List.map_nil, List.getD_eq_getElem?_getD, List.getElem?_eq_getElem h, Option.getD_some]

set_option maxHeartbeats 2000000 in
set_option maxRecDepth 100000 in
theorem add_any (B T N : Nat) (w0 w : World) (fs L : List ByteArray) (v0 : Value) (ver : ByteArray) (k c0 : Nat) (hk : fs.length = k) (hI : Inv B T N w0 w fs L v0) (hv : ver.size ≤ 1048576) (hf : ∀ j, (fs.getD j ByteArray.empty).size ≤ 1048576) (hL : L.length + k ≤ 1000000000) :
    Calls Tryd.prog 49 #[.string ver, .slice (some ⟨N, 0, none⟩) k c0, .pointer (some ⟨T, 0, none⟩)] w fun e w' => e = .returned (.tuple #[]) ∧ ∃ v, Inv B T N w0 w' fs (L ++ Pl.blk ver.data.toList fs) v := by
  obtain ⟨i0, hi, hz0, hz1, hz2⟩ := info_parts info9
  have HI : Hid (Inv B T N w0 w fs L v0) := hI
  have HF : Hid (∀ j, (fs.getD j ByteArray.empty).size ≤ 1048576) := hf
  clear hI hf
  go_enter Tryd.func49, Tryd.ntmps49
  go_wp2
  go_loopw [9] (fun i wr => ∃ q : Nat, q ≤ k ∧ i = .int .i64 q ∧ Hid (∃ v, Inv B T N w0 wr fs (L ++ Pl.blk ver.data.toList (fs.take q)) v)) (fun i _ => k - (intOf i).toNat)
  case atStart => exact ⟨0, by omega, by go_num, ⟨v0, by simpa [Pl.blk] using HI.out⟩⟩
  case round =>
    obtain ⟨q, hq, rfl, HQ⟩ := hrel
    clear HI
    by_cases hlt : q < k
    · obtain ⟨v, hinv⟩ := HQ.out
      clear HQ
      obtain ⟨f, hfq⟩ : ∃ f, f = fs.getD q ByteArray.empty := ⟨_, rfl⟩
      have hcell : wr.cell? ⟨N, q, none⟩ = some (.string f) := by rw [hfq]; exact hinv.2.1.2 q (by omega)
      have hsz : f.size ≤ 1048576 := by rw [hfq]; exact HF.out q
      obtain ⟨L1, hL1⟩ : ∃ L1, L1 = L ++ Pl.blk ver.data.toList (fs.take q) := ⟨_, rfl⟩
      rw [← hL1] at hinv
      have hl1 : L1.length + 1 ≤ 1000000000 := by rw [hL1, List.length_append, Pl.blk_length, List.length_take]; omega
      have HN : Hid (L1 ++ [Pl.tag ver.data.toList f] = L ++ Pl.blk ver.data.toList (fs.take (q + 1))) := by
        show _ = _
        rw [hL1, blk_snoc _ _ _ (by omega), hfq, List.append_assoc]
      have hTc := cell_of_one hinv.2.2.1
      have hTf := free_of_one hinv.2.2.1
      have HV : Hid (Inv B T N w0 wr fs L1 v) := hinv
      clear hinv hL1 hfq
      have n1 : ¬ (9223372036854775807 < 7 + ver.size) := by omega
      have n2 : ¬ (9223372036854775807 < 7 + ver.size + 1) := by omega
      have n3 : ¬ (9223372036854775807 < 7 + ver.size + 1 + f.size) := by omega
      go_wp2_with (at_builtin; refine wpList_append_own_at _ rfl (.tmp 13) (.tmp 19) 46 rfl B 9 i0 (.string ByteArray.empty) 1 16 Tryd.underlying46 hi hz0 hz1 hz2 rfl (by decide) v L1.length (L1.map Value.string) rfl (HV.out.2.2.2.1.alloc _) ⟨wr.heap.size, 0, none⟩ 1 1 [_] rfl rfl (cell_one_new _ _ _) (by intro u hu; simp at hu; subst hu; rfl) (by unfold maxLen; omega) (by omega) (by have := HV.out.1.1; rw [alloc_size]; omega) ?_)
      intro v1 w1 hown1 hg1 hnil1 hblk1
      have hTc1 := cell_of_one (HV.out.mid hg1)
      have hTf1 := free_of_one (HV.out.mid hg1)
      have HS : Hid (Inv B T N w0 (w1.setCell ⟨T, 0, none⟩ v1) fs (L ++ Pl.blk ver.data.toList (fs.take (q + 1))) v1) := by
        have h5 := HV.out.step hown1 hg1 hblk1
        refine h5.cast ?_ HN.out
        refine tag_eq ver f _ ?_
        simp [ByteArray.data_append]
      obtain ⟨g, c, hv1⟩ := own_slice hown1
      clear hown1 hg1 hnil1 hblk1 HV hTc hTf
      subst hv1
      go_wp2
      go_roundw
      case rel => exact ⟨q + 1, by omega, by go_num, ⟨_, HS.out⟩⟩
      case measure => simp [intOf]; omega
    · obtain rfl : q = k := by omega
      have HE : Hid (∃ v, Inv B T N w0 wr fs (L ++ Pl.blk ver.data.toList fs) v) := by
        have h6 := HQ.out
        rw [List.take_of_length_le (by omega)] at h6
        exact h6
      clear HQ
      go_wp2
      go_end0
      exact ⟨rfl, HE.out⟩
end Go.Proofs.Qxb6601124aDoor
