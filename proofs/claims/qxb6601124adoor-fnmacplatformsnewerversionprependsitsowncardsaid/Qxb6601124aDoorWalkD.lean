/-
  THE WALK: zzItoa at a number that is positive.
-/
import Derived.Test.Qxb6601124aDoorWalkC
import Derived.Lib.BytesEntry
import Derived.Lib.Bytes
namespace Go.Proofs.Qxb6601124aDoor
open Go.RowKit
set_option linter.unusedSimpArgs false
set_option linter.unusedVariables false

def dd (u : Nat) : List UInt8 := if u = 0 then [] else Lib.decDigits u

theorem dd_step (u : Nat) (h : 0 < u) : dd u = dd (u / 10) ++ [UInt8.ofNat (48 + u % 10)] := by
  unfold dd
  rw [if_neg (by omega), Lib.decDigits]
  by_cases h10 : u < 10
  · rw [dif_pos h10, if_pos (by omega), List.nil_append, Nat.mod_eq_of_lt h10]
  · rw [dif_neg h10, if_neg (by omega)]

theorem strOfNums_mk (ds : List UInt8) : strOfNums (ds.map fun b => (b.toNat : Int)) = Pl.mk ds := by
  apply Pl.eq_mk
  rw [← Lib.toList_data, Lib.strOfNums_toList, Lib.bytesOf, List.map_map]
  have e : ((fun n : Int => UInt8.ofNat n.toNat) ∘ fun b : UInt8 => (b.toNat : Int)) = id := by
    funext b
    simp
  rw [e, List.map_id]

theorem conv_at (w : World) (g o n cap : Nat) (D : List Int) (hn : D.length = n) (hc : ∀ j, j < n → w.cell? ⟨g, o + j, none⟩ = some (.int .u8 (D.getD j 0))) :
    (convert 82 9 (.slice (some ⟨g, o, none⟩) n cap)).run Tryd.prog w = .ok (.string (strOfNums D)) w :=
  run_convert_bytes_arg w 82 5 Tryd.underlying82 Tryd.underlying5 g o n cap D hn (fun i hi => hc i hi) 9 Tryd.underlying9

theorem u_bound {u i : Nat} (hu : 0 < u) (h : u < 10 ^ (i - 17)) : 18 ≤ i := by
  rcases Nat.lt_or_ge 17 i with h' | h'
  · omega
  · rw [show i - 17 = 0 by omega] at h; simp at h; omega

theorem u_next {u i : Nat} (hu : 0 < u) (h : u < 10 ^ (i - 17)) : u / 10 < 10 ^ (i - 1 - 17) := by
  have h18 := u_bound hu h
  have e : i - 17 = (i - 1 - 17) + 1 := by omega
  rw [e, Nat.pow_succ] at h
  omega

theorem arrayLen81 : Tryd.prog.arrayLen 81 = 24 := by kernel_rfl
theorem elem81 : Tryd.prog.elem 81 = 5 := by kernel_rfl
theorem array81 : Tryd.prog.underlying 81 = some (.array (Tryd.prog.arrayLen 81) (Tryd.prog.elem 81)) := by kernel_rfl

theorem slice_buf (w : World) (g k : Nat) (hk : k < 24) : (Instr.sliceAt 81 (.pointer (some ⟨g, 0, none⟩)) (some (.int .i64 (k : Int))) none none).run Tryd.prog w = .ok (.slice (some ⟨g, k, none⟩) (24 - k) (24 - k)) w := by
  rw [run_sliceAt_array_l w 81 _ array81 .i64 (k : Int) (by omega) (by rw [arrayLen81]; omega), elem81, Tryd.sizeOf5, arrayLen81]
  simp only [Result.andThen_ok, slicedAt, Int.toNat_natCast]
  rw [if_neg (by omega)]
  simp [Addr.add]
  omega

theorem dd_ne {n : Nat} (h : 0 < n) : 0 < (dd n).length := by
  rw [dd_step n h, List.length_append]
  simp

set_option maxHeartbeats 2000000 in
set_option maxRecDepth 100000 in
theorem itoa_any (n : Nat) (w : World) (hn : 0 < n) (hN : n < 10000000) :
    Calls Tryd.prog 43 #[.int .i64 (n : Int)] w fun e w' => e = .returned (.string (Pl.mk (Lib.itoa n))) ∧ Below w.heap.size w w' := by
  have HI : Hid (Lib.itoa (n : Int) = dd n) := by
    show _ = _
    unfold Lib.itoa dd
    rw [if_neg (by omega), if_neg (by omega)]
    rfl
  go_enter Tryd.func43, Tryd.ntmps43
  go_wp2
  have HB1 : Hid (Below w.heap.size w (w.alloc (Obj.cells (Array.replicate 24 (Value.int .u8 0)) 81))) := (Below.refl _ _).alloc (Nat.le_refl _) _
  have HX1 : Hid (w.heap.size < (w.alloc (Obj.cells (Array.replicate 24 (Value.int .u8 0)) 81)).heap.size ∧ ∀ j, j < 24 → (∃ x, (w.alloc (Obj.cells (Array.replicate 24 (Value.int .u8 0)) 81)).cell? ⟨w.heap.size, j, none⟩ = some x) ∧ (w.alloc (Obj.cells (Array.replicate 24 (Value.int .u8 0)) 81)).frozen? ⟨w.heap.size, j, none⟩ = false) := by
    have hh : (w.alloc (Obj.cells (Array.replicate 24 (Value.int .u8 0)) 81)).heap[w.heap.size]? = some (Obj.cells (Array.replicate 24 (Value.int .u8 0)) 81) := by
      show (w.heap.push _)[w.heap.size]? = some _
      simp
    refine ⟨by simp, fun j hj => ⟨⟨Value.int .u8 0, ?_⟩, ?_⟩⟩
    · unfold World.cell?
      simp only [hh]
      simp [hj]
    · unfold World.frozen?
      simp only [hh]
      simp
  go_loopw [3, 6] (fun u i wr => ∃ (k v : Nat) (ds : List UInt8), k ≤ 24 ∧ 17 ≤ k ∧ i = .int .i64 k ∧ u = .int .u64 v ∧ v < 10000000 ∧ Hid (v < 10 ^ (k - 17)) ∧ k + ds.length = 24 ∧ Hid (dd v ++ ds = dd n) ∧ Hid (Below w.heap.size w wr) ∧ Hid (w.heap.size < wr.heap.size ∧ ∀ j, j < 24 → (∃ x, wr.cell? ⟨w.heap.size, j, none⟩ = some x) ∧ wr.frozen? ⟨w.heap.size, j, none⟩ = false) ∧
      Hid (∀ j, j < ds.length → wr.cell? ⟨w.heap.size, k + j, none⟩ = some (Value.int .u8 ((ds.map fun b => (b.toNat : Int)).getD j 0)))) (fun u _ _ => (intOf u).toNat)
  case atStart => exact ⟨24, n, [], by omega, by omega, by go_num, by go_num, hN, hN, rfl, List.append_nil _, HB1, HX1, fun j hj => by simp at hj⟩
  case round =>
    obtain ⟨k, v, ds, hk, hk0, rfl, rfl, hv, HV, hl, HDD, HB, HX, HD⟩ := hrel
    clear HB1 HX1
    by_cases hv0 : 0 < v
    · have h18 := u_bound hv0 HV.out
      obtain ⟨⟨old, hold⟩, hfz⟩ := HX.out.2 (k - 1) (by omega)
      obtain ⟨c, hc⟩ : ∃ c : Nat, k = c + 1 := ⟨k - 1, by omega⟩
      subst hc
      simp only [Nat.add_sub_cancel] at hold hfz
      have HC2 : Hid (c + (UInt8.ofNat (48 + v % 10) :: ds).length = 24) := by show _ = _; simp; omega
      have HDD2 : Hid (dd (v / 10) ++ (UInt8.ofNat (48 + v % 10) :: ds) = dd n) := by
        show _ = _
        rw [← HDD.out, dd_step v hv0, List.append_assoc]; rfl
      have HV2 : Hid (v / 10 < 10 ^ (c - 17)) := by
        have h4 := u_next hv0 HV.out
        rw [Nat.add_sub_cancel] at h4
        exact h4
      obtain ⟨x, hx⟩ : ∃ x : Int, x = ((48 + v % 10 : Nat) : Int) := ⟨_, rfl⟩
      have HB2 : Hid (Below w.heap.size w (wr.setCell ⟨w.heap.size, c, none⟩ (Value.int .u8 x))) := HB.out.setCell (Nat.le_refl _) _
      have HX2 : Hid (w.heap.size < (wr.setCell ⟨w.heap.size, c, none⟩ (Value.int .u8 x)).heap.size ∧ ∀ j, j < 24 → (∃ y, (wr.setCell ⟨w.heap.size, c, none⟩ (Value.int .u8 x)).cell? ⟨w.heap.size, j, none⟩ = some y) ∧ (wr.setCell ⟨w.heap.size, c, none⟩ (Value.int .u8 x)).frozen? ⟨w.heap.size, j, none⟩ = false) := by
        refine ⟨by simpa [World.setCell] using HX.out.1, fun j hj => ?_⟩
        obtain ⟨⟨y, hy⟩, hf⟩ := HX.out.2 j hj
        exact ⟨cell?_setCell_some hy, by rw [World.frozen?_setCell]; exact hf⟩
      have HD2 : Hid (∀ j, j < (UInt8.ofNat (48 + v % 10) :: ds).length → (wr.setCell ⟨w.heap.size, c, none⟩ (Value.int .u8 x)).cell? ⟨w.heap.size, c + j, none⟩ = some (Value.int .u8 (((UInt8.ofNat (48 + v % 10) :: ds).map fun b => (b.toNat : Int)).getD j 0))) := by
        intro j hj
        cases j with
        | zero =>
          rw [Nat.add_zero, World.cell?_setCell_same _ _ _ hold, hx]
          simp [UInt8.toNat_ofNat]
          omega
        | succ j =>
          rw [World.cell?_setCell_other _ _ _ _ (fun h => by have h2 := congrArg Addr.off h; simp at h2)]
          have h3 := HD.out j (by simpa using hj)
          rw [show c + (j + 1) = c + 1 + j by omega, h3]
          simp
      have hx' : x = 48 + (v : Int) % 10 := by rw [hx]; push_cast; rfl
      clear hx HD HX HB HDD HV
      subst hx'
      go_wp2
      go_roundw
      case rel => exact ⟨c, v / 10, UInt8.ofNat (48 + v % 10) :: ds, by omega, by omega, by go_num, by go_num, by omega, HV2, HC2, HDD2, HB2, HX2, HD2⟩
      case measure => simp [intOf]; omega
    · have HDS : Hid (ds = dd n) := by
        show _ = _
        have hz : v = 0 := by omega
        rw [← HDD.out, hz]; rfl
      have hcv := conv_at wr w.heap.size k (24 - k) (24 - k) (ds.map fun b => (b.toNat : Int)) (by simp; omega) (fun j hj => HD.out j (by omega))
      rw [strOfNums_mk] at hcv
      have hk24 : k < 24 := by
        have h5 := dd_ne hn
        rw [← HDS.out] at h5
        omega
      have hsl := slice_buf wr w.heap.size k hk24
      clear HD HX HDD HV
      go_wp2
      go_ret
      rw [HI.out, ← HDS.out]
      exact ⟨rfl, HB.out⟩
end Go.Proofs.Qxb6601124aDoor
