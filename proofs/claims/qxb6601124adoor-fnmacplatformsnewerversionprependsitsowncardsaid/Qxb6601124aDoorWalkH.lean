/-
  THE WALK: macPlatforms where the major number is none.
-/
import Derived.Test.Qxb6601124aDoorWalkG
namespace Go.Proofs.Qxb6601124aDoor
open Go.RowKit
set_option linter.unusedSimpArgs false
set_option linter.unusedVariables false


theorem own_fresh (W : World) (a : ByteArray) (B : Nat) (hB : B ≤ W.heap.size) : (W.alloc (.cells #[.string a] 9)).ownsRow B 9 1 (.slice (some ⟨W.heap.size, 0, none⟩) 1 1) 1 [.string a] :=
  ⟨rfl, .inr ⟨W.heap.size, 1, #[.string a], rfl, hB, heap_at W _ _ rfl, Nat.le_refl _, by unfold maxLen; omega, rfl, rfl⟩⟩

theorem cells_new (w : World) (xs : List Value) (t : TypeId) : ∀ j u, xs[j]? = some u → (w.alloc (.cells xs.toArray t)).cell? ((⟨w.heap.size, 0, none⟩ : Addr).add j) = some u := by
  intro j u hj
  have hh := heap_at w (.cells xs.toArray t) _ rfl
  have e : (⟨w.heap.size, 0, none⟩ : Addr).add j = ⟨w.heap.size, j, none⟩ := by cases j <;> simp [Addr.add]
  rw [e]
  unfold World.cell?
  simp only [hh]
  simpa using hj

theorem own_row {w : World} {B : Nat} {v : Value} {n : Nat} {fs : List ByteArray} (h : w.ownsRow B 9 1 v n (fs.map Value.string)) (hn : fs.length = n) (hp : 0 < n) : ∃ N c, v = .slice (some ⟨N, 0, none⟩) n c ∧ RowAt w N fs ∧ B ≤ N := by
  rcases h.2 with ⟨hv, h0⟩ | ⟨g, cap, cur, hv, hbg, hh, hnc, hcm, hcs, htake⟩
  · omega
  · refine ⟨g, cap, hv, ⟨lt_of_block hh, fun j hj => ?_⟩, hbg⟩
    have hc : (cur.toList.take (n * 1))[j]? = (fs.map Value.string)[j]? := by rw [htake]
    rw [List.getElem?_take, if_pos (by omega)] at hc
    simp only [World.cell?, hh]
    simp only [Array.getElem?_toList, List.getElem?_map] at hc
    simp [hc, List.getD_eq_getElem?_getD, hj]

theorem ownsRow_below {w w' : World} {B : Nat} {v : Value} {n : Nat} {xs : List Value} (h : w.ownsRow B 9 1 v n xs) (hb : Below w.heap.size w w') : w'.ownsRow B 9 1 v n xs := by
  obtain ⟨h1, h2⟩ := h
  refine ⟨h1, ?_⟩
  rcases h2 with h2 | ⟨g, cap, cur, hv, hg, hh, r⟩
  · exact .inl h2
  · exact .inr ⟨g, cap, cur, hv, hg, by rw [hb.block g (lt_of_block hh)]; exact hh, r⟩

theorem Inv.keep {B T N : Nat} {w0 w w' : World} {fs L : List ByteArray} {v : Value} (h : Inv B T N w0 w fs L v) (hb : Below w.heap.size w w') : Inv B T N w0 w' fs L v := by
  obtain ⟨⟨hB, hbel, hBT, hNT⟩, hrow, hT, hown, hvN, hnil⟩ := h
  exact ⟨⟨Nat.le_trans hB hb.size, hbel.trans (hb.mono hB), hBT, hNT⟩, hrow.keep hb, by rw [hb.block T (lt_of_block hT)]; exact hT, ownsRow_below hown hb, hvN, hnil⟩

theorem Inv.start {B N : Nat} {w0 w : World} {fs : List ByteArray} (hB : B ≤ w.heap.size) (hb : Below B w0 w) (hrow : RowAt w N fs) : Inv B w.heap.size N w0 (w.alloc (.cells #[.slice none 0 0] 46)) fs [] (.slice none 0 0) :=
  ⟨⟨by rw [alloc_size]; omega, hb.alloc hB _, hB, Nat.ne_of_lt hrow.1⟩, hrow.keep ((Below.refl _ _).alloc (Nat.le_refl _) _), heap_at w _ _ rfl, ⟨rfl, .inl ⟨rfl, rfl⟩⟩, (by intro e; cases e), fun _ => rfl⟩

/-- What macPlatforms leaves. -/
def Tags (w w' : World) (L : List ByteArray) (e : Ending) : Prop := ∃ v, e = .returned v ∧ w'.ownsRow w.heap.size 9 1 v L.length (L.map Value.string) ∧ (L = [] → v = .slice none 0 0)

theorem PM_eq : PM = { data := #[112, 108, 97, 116, 102, 111, 114, 109, 95, 109, 97, 99, 104, 105, 110, 101] } := rfl

set_option maxHeartbeats 2000000 in
set_option maxRecDepth 100000 in
theorem mac_none (mv : Option Nat) (a im ex pl gl os : ByteArray) (v0 v1 v2 bits : Int) (w : World) (hM : MapIs w mv a) (hE : Env w) (hs : os.size ≤ 1048576) (hno : Pl.sOk (Pl.majL os.data.toList) = false) :
    Calls Tryd.prog 42 #[interp mv im ex pl gl os v0 v1 v2 bits] w fun e w' => e = .returned (.slice none 0 0) ∧ Below w.heap.size w w' := by
  have l1 := Pl.cutL_len os.data.toList
  have l2 := Pl.cutL_len (Pl.cutL os.data.toList).2
  rw [by_len] at l1
  have S1 : Hid ((Pl.mk (Pl.cutL os.data.toList).1).size ≤ 1048576) := by show _ ≤ _; rw [Pl.mk_size]; omega
  have S2 : Hid ((Pl.mk (Pl.cutL os.data.toList).2).size ≤ 1048576) := by show _ ≤ _; rw [Pl.mk_size]; omega
  have HO : Hid (Pl.sOk (Pl.mk (Pl.cutL os.data.toList).1).data.toList = false) := by show _ = _; rw [Pl.mk_bytes]; exact hno
  have HE : Hid (Env w) := hE
  have hlook : ∀ o, (Instr.lookup 49 (.map mv) (.string { data := #[112, 108, 97, 116, 102, 111, 114, 109, 95, 109, 97, 99, 104, 105, 110, 101] }) false).run Tryd.prog (w.alloc o) = .ok (.string a) (w.alloc o) := fun o => (hM.keep ((Below.refl _ _).alloc (Nat.le_refl _) o)).look
  clear l1 l2 hno hE hM
  unfold interp
  go_enter Tryd.func42, Tryd.ntmps42
  go_wp2_with fail
  go_at_call 47
  refine (cut_dot os _ hs).mono ?_
  rintro e w1 ⟨⟨b1, rfl⟩, hb1⟩
  have HB1 : Hid (Below w.heap.size w w1) := ((Below.refl _ _).alloc (Nat.le_refl _) _).trans (hb1.mono (by rw [alloc_size]; omega))
  clear hb1
  go_wp2_with fail
  go_at_call 47
  refine (cut_dot (Pl.mk (Pl.cutL os.data.toList).2) _ S2.out).mono ?_
  rintro e w2 ⟨⟨b2, rfl⟩, hb2⟩
  have HB2 : Hid (Below w.heap.size w w2) := HB1.out.trans (hb2.mono HB1.out.size)
  clear hb2
  go_wp2_with fail
  go_at_call 48
  refine (atoi_bad (Pl.mk (Pl.cutL os.data.toList).1) _ (HE.out.keep HB2.out) S1.out HO.out).mono ?_
  rintro e w3 ⟨x, N, rfl, hb3⟩
  have HB3 : Hid (Below w.heap.size w w3) := HB2.out.trans (hb3.mono HB2.out.size)
  clear hb3
  go_wp2
  go_ret
  exact ⟨rfl, HB3.out⟩
end Go.Proofs.Qxb6601124aDoor
