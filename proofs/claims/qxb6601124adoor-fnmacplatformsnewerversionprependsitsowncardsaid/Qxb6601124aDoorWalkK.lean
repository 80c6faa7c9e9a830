/-
  THE WALKS: ZZMacPlatforms at every version that the law lets through; the two bounds on the total length.
-/
import Derived.Test.Qxb6601124aDoorWalkJ
namespace Go.Proofs.Qxb6601124aDoor
open Go.RowKit
set_option linter.unusedSimpArgs false
set_option linter.unusedVariables false

theorem mac_any (mv : Option Nat) (a im ex pl gl os : ByteArray) (v0 v1 v2 bits : Int) (w : World) (hM : MapIs w mv a) (hE : Env w) (hs : os.size ≤ 1048576) (ha : a.size ≤ 1048576) (ht : Pl.pThrough os.data.toList = true) :
    Calls Tryd.prog 42 #[interp mv im ex pl gl os v0 v1 v2 bits] w fun e w' => Tags w w' (Pl.got a os.data.toList) e ∧ Below w.heap.size w w' := by
  cases ho : Pl.sOk (Pl.majL os.data.toList) with
  | false =>
    have hp : Pl.pOk os.data.toList = false := by simp [Pl.pOk, ho]
    refine (mac_none mv a im ex pl gl os v0 v1 v2 bits w hM hE hs ho).mono fun e w' ⟨he, hb⟩ => ⟨?_, hb⟩
    have hg : Pl.got a os.data.toList = [] := by unfold Pl.got; rw [hp]; rfl
    rw [hg, he]
    exact ⟨_, rfl, ⟨rfl, .inl ⟨rfl, rfl⟩⟩, fun _ => rfl⟩
  | true =>
    have hp : Pl.pOk os.data.toList = true := by simp [Pl.pOk, ho, ht]
    have hb : Pl.sBig (Pl.majL os.data.toList) = false := by
      cases hb : Pl.sBig (Pl.majL os.data.toList) with
      | false => rfl
      | true => simp [Pl.pThrough, ho, hb] at ht
    obtain ⟨h1, h2, h3⟩ := Pl.atoi_ok _ ho hb
    have hg : Pl.got a os.data.toList = Pl.tags a (Pl.sVal (Pl.majL os.data.toList)) (if Pl.sOk (Pl.minL os.data.toList) = true then Pl.sVal (Pl.minL os.data.toList) else 0) := by
      unfold Pl.got Pl.pMaj Pl.pMin
      rw [if_pos hp, if_pos hp, if_pos hp]
    rw [hg]
    by_cases h10 : Pl.sVal (Pl.majL os.data.toList) = 10
    · have hbm : Pl.sBig (Pl.minL os.data.toList) = false := by
        cases hbm : Pl.sBig (Pl.minL os.data.toList) with
        | false => rfl
        | true => simp [Pl.pThrough, ho, hb, h10, hbm] at ht
      rw [h10] at h1 ⊢
      have hw := sVal_wide (Pl.minL os.data.toList)
      exact mac10 mv a im ex pl gl os v0 v1 v2 bits 10 w hM hE hs ha rfl h1 hbm _ rfl (by split <;> omega) (by split <;> omega)
    · exact mac11 mv a im ex pl gl os v0 v1 v2 bits _ w hM hE hs ha h10 h2 (by omega) h1 _

theorem ownsRow_mono {w : World} {B B' : Nat} {v : Value} {n : Nat} {xs : List Value} (h : w.ownsRow B 9 1 v n xs) (hB : B' ≤ B) : w.ownsRow B' 9 1 v n xs := by
  obtain ⟨h1, h2⟩ := h
  refine ⟨h1, ?_⟩
  rcases h2 with h2 | ⟨g, cap, cur, hv, hg, r⟩
  · exact .inl h2
  · exact .inr ⟨g, cap, cur, hv, Nat.le_trans hB hg, r⟩

set_option maxHeartbeats 1000000 in
set_option maxRecDepth 100000 in
theorem zzmac_any (mv : Option Nat) (a im ex pl gl os : ByteArray) (v0 v1 v2 bits : Int) (w : World) (hM : MapIs w mv a) (hE : Env w) (hs : os.size ≤ 1048576) (ha : a.size ≤ 1048576) (ht : Pl.pThrough os.data.toList = true) :
    Calls Tryd.prog 28 #[interp mv im ex pl gl os v0 v1 v2 bits] w fun e w' => Tags w w' (Pl.got a os.data.toList) e ∧ Below w.heap.size w w' := by
  have HC : Hid (∀ o, Calls Tryd.prog 42 #[interp mv im ex pl gl os v0 v1 v2 bits] (w.alloc o) fun e w' => Tags (w.alloc o) w' (Pl.got a os.data.toList) e ∧ Below (w.alloc o).heap.size (w.alloc o) w') := fun o =>
    mac_any mv a im ex pl gl os v0 v1 v2 bits (w.alloc o) (hM.keep ((Below.refl _ _).alloc (Nat.le_refl _) o)) (hE.keep ((Below.refl _ _).alloc (Nat.le_refl _) o)) hs ha ht
  clear hM hE ht
  unfold interp at HC ⊢
  go_enter Tryd.func28, Tryd.ntmps28
  go_wp2_with fail
  go_at_call 42
  refine (HC.out _).mono ?_
  rintro e w1 ⟨⟨v, rfl, hown, hnil⟩, hb⟩
  have HB : Hid (Below w.heap.size w w1) := ((Below.refl _ _).alloc (Nat.le_refl _) _).trans (hb.mono (by rw [alloc_size]; omega))
  have HT : Hid (w1.ownsRow w.heap.size 9 1 v (Pl.got a os.data.toList).length ((Pl.got a os.data.toList).map Value.string) ∧ (Pl.got a os.data.toList = [] → v = .slice none 0 0)) := ⟨ownsRow_mono hown (by rw [alloc_size]; omega), hnil⟩
  clear hown hnil hb HC
  go_wp2
  go_ret
  exact ⟨⟨v, rfl, HT.out.1, HT.out.2⟩, HB.out⟩

def AnyBool (e : Ending) : Prop := ∃ b, e = .returned (.bool b)
theorem anyBool (b : Bool) : AnyBool (.returned (.bool b)) := ⟨b, rfl⟩

set_option maxHeartbeats 2000000 in
set_option maxRecDepth 100000 in
theorem bytes23 (m im ex pl gl os : ByteArray) (h : Bool) (v0 v1 v2 bits : Int) (w : World) :
    Calls Tryd.prog 23 #[.string m, .bool h, .string im, .agg #[.int .i64 v0, .int .i64 v1, .int .i64 v2], .string ex, .string pl, .int .i64 bits, .string gl, .string os] w fun e w' => AnyBool e ∧ Below w.heap.size w w' := by
  go_enter Tryd.func23, Tryd.ntmps23
  go_wp2
  all_goals
    go_ret
    exact ⟨anyBool _, (Below.refl _ _).alloc (Nat.le_refl _) _⟩

set_option maxHeartbeats 2000000 in
set_option maxRecDepth 100000 in
theorem bytes32 (m im ex pl gl os : ByteArray) (h : Bool) (v0 v1 v2 bits : Int) (w : World) :
    Calls Tryd.prog 32 #[.string m, .bool h, .string im, .agg #[.int .i64 v0, .int .i64 v1, .int .i64 v2], .string ex, .string pl, .int .i64 bits, .string gl, .string os] w fun e w' => AnyBool e ∧ Below w.heap.size w w' := by
  go_enter Tryd.func32, Tryd.ntmps32
  go_wp2
  all_goals
    go_ret
    exact ⟨anyBool _, (Below.refl _ _).alloc (Nat.le_refl _) _⟩
end Go.Proofs.Qxb6601124aDoor
