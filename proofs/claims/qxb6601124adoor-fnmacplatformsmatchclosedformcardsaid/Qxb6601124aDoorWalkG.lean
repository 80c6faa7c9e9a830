/-
  THE WALKS: zzInterp; a look-up in the map that it makes.
-/
import Derived.Test.Qxb6601124aDoorWalkF
import Derived.MapKept
import Derived.Handy
namespace Go.Proofs.Qxb6601124aDoor
open Go.RowKit
set_option linter.unusedSimpArgs false
set_option linter.unusedVariables false

theorem u49 : Tryd.prog.underlying 49 = some (.map 9 9) := by kernel_rfl
/-- "platform_machine" -/
def PM : ByteArray := ⟨#[112, 108, 97, 116, 102, 111, 114, 109, 95, 109, 97, 99, 104, 105, 110, 101]⟩

theorem pm_check (e : Bool) (w : World) : (Instr.checkKey e 10000 9 (.string PM)).run Tryd.prog w = .ok () w := MapKept.run_checkKey Tryd.underlying9 (by simp [MapKept.IsKey]) e 9999

theorem map_up (W : World) (m : ByteArray) : (Instr.mapUpdate 49 (.map (some W.heap.size)) (.string PM) (.string m)).run Tryd.prog (W.alloc (.map #[] 0)) = .ok () (W.alloc (.map #[{ key := .string PM, val := .string m, born := 0 }] 1)) := by
  have hh : (W.alloc (.map #[] 0)).heap[W.heap.size]? = some (.map #[] 0) := by
    show (W.heap.push _)[W.heap.size]? = some _
    simp
  have h1 : ∀ w, (underlying 49).run Tryd.prog w = .ok (.map 9 9) w := fun w => run_underlying u49 w
  have h3 : ∀ w, (Instr.findKey 9 (.string PM) []).run Tryd.prog w = .ok none w := fun w => MapKept.run_findKey Tryd.underlying9 (by rfl)
  unfold Instr.mapUpdate
  simp only [Sem.run_bind, h1, Result.andThen_ok, MapKept.run_getObj_map hh, pm_check, h3, Array.toList_empty, MapKept.run_setObj_map _ hh]
  show Result.ok () { W with heap := (W.heap.push _).setIfInBounds W.heap.size _ } = Result.ok () { W with heap := W.heap.push _ }
  congr 2
  apply Array.ext'
  simp

theorem map_look (w : World) (b : Nat) (m : ByteArray) (h : w.heap[b]? = some (.map #[{ key := .string PM, val := .string m, born := 0 }] 1)) : (Instr.lookup 49 (.map (some b)) (.string PM) false).run Tryd.prog w = .ok (.string m) w := by
  have h1 : ∀ w, (underlying 49).run Tryd.prog w = .ok (.map 9 9) w := fun w => run_underlying u49 w
  have h3 : ∀ w, (Instr.findKey 9 (.string PM) [{ key := .string PM, val := .string m, born := 0 }]).run Tryd.prog w = .ok (some (0, .string m)) w := fun w => MapKept.run_findKey Tryd.underlying9 (by rfl)
  unfold Instr.lookup
  simp only [Sem.run_bind, h1, Result.andThen_ok, MapKept.run_getObj_map h, pm_check, h3, Sem.run_pure]
  simp

theorem map_look_nil (w : World) : (Instr.lookup 49 (.map none) (.string PM) false).run Tryd.prog w = .ok (.string ByteArray.empty) w := by
  have h1 : ∀ w, (underlying 49).run Tryd.prog w = .ok (.map 9 9) w := fun w => run_underlying u49 w
  have h3 : ∀ w, (Instr.findKey 9 (.string PM) []).run Tryd.prog w = .ok none w := fun w => MapKept.run_findKey Tryd.underlying9 (by rfl)
  unfold Instr.lookup
  simp only [Sem.run_bind, h1, Result.andThen_ok, pm_check, h3, Sem.run_pure, Array.toList_empty, Tryd.zeroValue9]
  simp
  rfl

theorem heap_at (X : World) (o : Obj) (n : Nat) (h : X.heap.size = n) : (X.alloc o).heap[n]? = some o := by
  subst h
  exact (MapKept.heap_alloc _ _).1

/-- What the receiver's markers hold. -/
def MapIs (w : World) (mv : Option Nat) (a : ByteArray) : Prop :=
  (mv = none ∧ a = ByteArray.empty) ∨ ∃ b, mv = some b ∧ w.heap[b]? = some (.map #[{ key := .string PM, val := .string a, born := 0 }] 1)

theorem MapIs.keep {w w' : World} {mv : Option Nat} {a : ByteArray} (h : MapIs w mv a) (hb : Below w.heap.size w w') : MapIs w' mv a := by
  rcases h with h | ⟨b, h1, h2⟩
  · exact .inl h
  · exact .inr ⟨b, h1, by rw [hb.block b (lt_of_block h2)]; exact h2⟩

theorem MapIs.look {w : World} {mv : Option Nat} {a : ByteArray} (h : MapIs w mv a) : (Instr.lookup 49 (.map mv) (.string PM) false).run Tryd.prog w = .ok (.string a) w := by
  rcases h with ⟨h1, h2⟩ | ⟨b, h1, h2⟩
  · rw [h1, h2]; exact map_look_nil w
  · rw [h1]; exact map_look w b a h2

def interp (mv : Option Nat) (im ex pl gl os : ByteArray) (v0 v1 v2 bits : Int) : Value :=
  .agg #[.map mv, .string im, .int .i64 v0, .int .i64 v1, .int .i64 v2, .string ex, .string pl, .int .i64 bits, .string gl, .string os]

set_option maxHeartbeats 2000000 in
set_option maxRecDepth 100000 in
theorem interp_any (m im ex pl gl os : ByteArray) (h : Bool) (v0 v1 v2 bits : Int) (w : World) :
    Calls Tryd.prog 29 #[.string m, .bool h, .string im, .agg #[.int .i64 v0, .int .i64 v1, .int .i64 v2], .string ex, .string pl, .int .i64 bits, .string gl, .string os] w fun e w' =>
      ∃ mv, e = .returned (interp mv im ex pl gl os v0 v1 v2 bits) ∧ MapIs w' mv (arch m h) ∧ Below w.heap.size w w' := by
  cases h with
  | false =>
    go_enter Tryd.func29, Tryd.ntmps29
    go_wp2
    go_returns
    exact ⟨none, rfl, .inl ⟨rfl, rfl⟩, ((Below.refl _ _).alloc (Nat.le_refl _) _).alloc (by rw [alloc_size]; omega) _⟩
  | true =>
    have hmm := @run_makeMap Tryd.prog
    have hup : ∀ W : World, ∀ n, n = W.heap.size → (Instr.mapUpdate 49 (.map (some n)) (.string { data := #[112, 108, 97, 116, 102, 111, 114, 109, 95, 109, 97, 99, 104, 105, 110, 101] }) (.string m)).run Tryd.prog (W.alloc (.map #[] 0)) = .ok () (W.alloc (.map #[{ key := .string PM, val := .string m, born := 0 }] 1)) := by
      intro W n hn
      subst hn
      exact map_up W m
    go_enter Tryd.func29, Tryd.ntmps29
    go_wp2
    go_returns
    refine ⟨some (w.heap.size + 1 + 1), rfl, .inr ⟨_, rfl, ?_⟩, ?_⟩
    · have e2 : ∀ (o1 o2 : Obj), ((w.alloc o1).alloc o2).heap.size = w.heap.size + 1 + 1 := fun o1 o2 => by rw [alloc_size, alloc_size]
      exact heap_at _ _ _ (e2 _ _)
    · exact (((Below.refl _ _).alloc (Nat.le_refl _) _).alloc (by rw [alloc_size]; omega) _).alloc (by rw [alloc_size, alloc_size]; omega) _

/-! ### What the row lists, at a world -/

def Env (w : World) : Prop := Lib.TabIs Tryd.prog w powName .u64 Lib.pow10Tab ∧ (∃ te pe, w.cell? ⟨1, 0, none⟩ = some (.iface te pe)) ∧ (∃ te pe, w.cell? ⟨2, 0, none⟩ = some (.iface te pe))

theorem pow10At : Tryd.prog.globalNamed powName = some 5 := by kernel_rfl

theorem Env.keep {w w' : World} (h : Env w) (hb : Below w.heap.size w w') : Env w' := by
  obtain ⟨h1, ⟨t1, p1, h2⟩, ⟨t2, p2, h3⟩⟩ := h
  refine ⟨?_, ⟨t1, p1, ?_⟩, ⟨t2, p2, ?_⟩⟩
  · unfold Lib.TabIs World.var? at h1 ⊢
    rw [pow10At, Option.bind_some] at h1 ⊢
    have hlt : 5 < w.heap.size := by
      rcases Nat.lt_or_ge 5 w.heap.size with h' | h'
      · exact h'
      · rw [Array.getElem?_eq_none h'] at h1
        cases h1
    rw [hb.block 5 hlt]
    exact h1
  · rw [hb.cell (p := ⟨1, 0, none⟩) (World.block_lt_of_cell? w _ h2)]; exact h2
  · rw [hb.cell (p := ⟨2, 0, none⟩) (World.block_lt_of_cell? w _ h3)]; exact h3

theorem below_bytes {w w' : World} (h : w' = w ∨ ∃ t, w' = Lib.bytesWorld w 5 t) : Below w.heap.size w w' := by
  rcases h with rfl | ⟨t, rfl⟩
  · exact Below.refl _ _
  · exact Joins.below_bytesWorld _ _ _ _ (Nat.le_refl _)

theorem atoi_good (s : ByteArray) (v : Int) (w : World) (hs : s.size ≤ 1048576) (h : Lib.atoiAll s.data.toList = .ok v) :
    Calls Tryd.prog 48 #[.string s] w fun e w' => e = .returned (.tuple #[.int .i64 v, .nilIface]) ∧ Below w.heap.size w w' :=
  (Tryd.strconv_Atoi_ok s (by omega) v h w).mono fun e w' h => ⟨h.1, below_bytes h.2⟩

theorem atoi_fault (s : ByteArray) (w : World) (hE : Env w) (hs : s.size ≤ 1048576) (h : Lib.atoiAll s.data.toList = Pl.noInt) :
    Calls Tryd.prog 48 #[.string s] w fun e w' => ∃ N, e = .returned (.tuple #[.int .i64 0, .iface 98 (.pointer (some ⟨N, 0, none⟩))]) ∧ Below w.heap.size w w' := by
  obtain ⟨te, pe, hv⟩ := hE.2.1
  exact (Tryd.strconv_Atoi_fault s (by omega) h _ w hv (.inr ⟨te, pe, rfl⟩)).mono fun e w' ⟨N, h1, _, _, h2⟩ => ⟨N, h1, h2⟩

theorem atoi_range (s : ByteArray) (w : World) (hE : Env w) (hs : s.size ≤ 1048576) (h : Lib.atoiAll s.data.toList = .range) :
    Calls Tryd.prog 48 #[.string s] w fun e w' => ∃ N, e = .returned (.tuple #[.int .i64 (Lib.atoiSat s.data.toList), .iface 98 (.pointer (some ⟨N, 0, none⟩))]) ∧ Below w.heap.size w w' := by
  obtain ⟨te, pe, hv⟩ := hE.2.2
  exact (Tryd.strconv_Atoi_range s (by omega) h _ w hv (.inr ⟨te, pe, rfl⟩)).mono fun e w' ⟨N, h1, _, _, h2⟩ => ⟨N, h1, h2⟩

theorem atoi_bad (s : ByteArray) (w : World) (hE : Env w) (hs : s.size ≤ 1048576) (h : Pl.sOk s.data.toList = false) :
    Calls Tryd.prog 48 #[.string s] w fun e w' => ∃ x N, e = .returned (.tuple #[.int .i64 x, .iface 98 (.pointer (some ⟨N, 0, none⟩))]) ∧ Below w.heap.size w w' := by
  rcases Pl.atoi_no _ h with h1 | h1
  · exact (atoi_fault s w hE hs h1).mono fun e w' ⟨N, h2, h3⟩ => ⟨_, N, h2, h3⟩
  · exact (atoi_range s w hE hs h1).mono fun e w' ⟨N, h2, h3⟩ => ⟨_, N, h2, h3⟩

theorem atoi_some (s : ByteArray) (w : World) (hE : Env w) (hs : s.size ≤ 1048576) :
    Calls Tryd.prog 48 #[.string s] w fun e w' => ∃ x er, e = .returned (.tuple #[.int .i64 x, er]) ∧ Below w.heap.size w w' := by
  cases h : Lib.atoiAll s.data.toList
  · exact (atoi_good s _ w hs h).mono fun e w' ⟨h2, h3⟩ => ⟨_, _, h2, h3⟩
  · exact (atoi_fault s w hE hs h).mono fun e w' ⟨N, h2, h3⟩ => ⟨_, _, h2, h3⟩
  · exact (atoi_range s w hE hs h).mono fun e w' ⟨N, h2, h3⟩ => ⟨_, _, h2, h3⟩

/-- The minor number where it is small: the number, or 0. -/
theorem atoi_small (s : ByteArray) (w : World) (hE : Env w) (hs : s.size ≤ 1048576) (hb : Pl.sBig s.data.toList = false) :
    Calls Tryd.prog 48 #[.string s] w fun e w' => ∃ er, e = .returned (.tuple #[.int .i64 (if Pl.sOk s.data.toList = true then Pl.sVal s.data.toList else 0), er]) ∧ Below w.heap.size w w' := by
  cases ho : Pl.sOk s.data.toList with
  | true =>
    rw [if_pos rfl]
    exact (atoi_good s _ w hs (Pl.atoi_ok _ ho hb).1).mono fun e w' ⟨h2, h3⟩ => ⟨_, h2, h3⟩
  | false =>
    rw [if_neg (by decide)]
    exact (atoi_fault s w hE hs (Pl.atoi_fault _ ho hb)).mono fun e w' ⟨N, h2, h3⟩ => ⟨_, h2, h3⟩

theorem itoa_lib (n : Int) (w : World) (hE : Env w) (h0 : 0 ≤ n) (h1 : n ≤ 1000000000) :
    Calls Tryd.prog 50 #[.int .i64 n] w fun e w' => e = .returned (.string (Pl.mk (Lib.itoa n))) ∧ Below w.heap.size w w' :=
  (Tryd.strconv_Itoa n (by omega) (by omega) w hE.1).mono fun e w' ⟨h2, k, os, h3⟩ => ⟨h2, by rw [h3]; exact Lib.below_grow _ _ (Nat.le_refl _) _ _⟩
end Go.Proofs.Qxb6601124aDoor
