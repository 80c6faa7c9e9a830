/-
  THE WALKS: ZZplainField, cloneBytes, lineEndLen.
-/
import Derived.Test.Qxb6600576aWalkA
namespace Go.Proofs.Qxb6600576a
open Go.RowKit
set_option linter.unusedSimpArgs false
set_option linter.unusedVariables false

theorem info5 : (Try.prog.info? 5).map (fun i => (i.zero, i.size, i.bytes)) = some (some (.int .u8 0), 1, 1) := by kernel_rfl

/-- What a slice of the call's own is: nil, or the bytes d from the head of block g on. -/
def Own (w : World) (g : Nat) (ao : Option Addr) (n : Nat) (d : List Int) : Prop :=
  d.length = n ∧ (∀ x ∈ d, 0 ≤ x ∧ x ≤ 255) ∧ ((ao = none ∧ n = 0) ∨ (ao = some ⟨g, 0, none⟩ ∧ g < w.heap.size ∧ ∀ j, j < n → w.cell? ⟨g, j, none⟩ = some (.int .u8 (d.getD j 0))))

theorem Own.keep2 {w w' : World} {g n : Nat} {ao : Option Addr} {d : List Int} (h : Own w g ao n d) (hb : Below w.heap.size w w') : Own w' g ao n d := by
  refine ⟨h.1, h.2.1, ?_⟩
  rcases h.2.2 with h | ⟨h1, h2, h3⟩
  · exact .inl h
  · exact .inr ⟨h1, Nat.lt_of_lt_of_le h2 hb.size, fun j hj => by rw [hb.cell (by exact h2)]; exact h3 j hj⟩

theorem plainField_some0 (g cap : Nat) (w : World) (hN : cap ≤ 1099511627776) :
    Calls Try.prog 21 #[.slice (some ⟨g, 0, none⟩) 0 cap, .int .i64 0] w fun e w' => e = .returned (.tuple #[.int .i64 0, .int .i64 0]) ∧ w' = w := by
  have hi : Calls Try.prog 22 #[.slice (some ⟨g, 0, none⟩) 0 cap, .int .u8 44] w fun e w' => e = .returned (.int .i64 (-1)) ∧ w' = w :=
    indexByte_any g 0 0 cap [] 44 w rfl (fun i h => by omega)
  have HI := show Hid _ from hi
  clear hi
  go_enter Try.func21, Try.ntmps21
  go_wp2
  refine wp_loop_rounds 1 ?_
  rw [rounds_succ]
  go_wp2_with fail
  refine Calls.mono HI.out ?_
  rintro e w' ⟨rfl, rfl⟩
  go_wp2
  go_ret2
  exact ⟨rfl, rfl⟩

theorem plainField_nil (w : World) :
    Calls Try.prog 21 #[.slice none 0 0, .int .i64 0] w fun e w' => e = .returned (.tuple #[.int .i64 0, .int .i64 0]) ∧ w' = w := by
  go_enter Try.func21, Try.ntmps21
  go_wp2
  refine wp_loop_rounds 1 ?_
  rw [rounds_succ]
  go_wp2_with fail
  refine (indexByte_nil 0 0 44 _).mono ?_
  rintro e w' ⟨rfl, rfl⟩
  go_wp2
  go_ret2
  exact ⟨rfl, rfl⟩

theorem empty_from : Pl.from_ [] 0 = 0 := rfl
theorem empty_to : Pl.to_ [] 0 = 0 := rfl

/-- plainField at whatever slice of the call's own; of an empty one: its column 0. -/
theorem pf_own (g : Nat) (ao : Option Addr) (n cap col : Nat) (d : List Int) (w : World) (h : Own w g ao n d) (hnil : ao = none → cap = 0) (h0 : n = 0 → col = 0) (hcap : n ≤ cap) (hN : cap ≤ 1099511627776) (hcol : col ≤ 1099511627776) :
    Calls Try.prog 21 #[.slice ao n cap, .int .i64 col] w fun e w' => e = .returned (.tuple #[.int .i64 (Pl.from_ d col : Nat), .int .i64 (Pl.to_ d col : Nat)]) ∧ w' = w := by
  obtain ⟨hn, hb, h⟩ := h
  by_cases hz : n = 0
  · subst hz
    obtain rfl : col = 0 := h0 rfl
    obtain rfl : d = [] := List.eq_nil_of_length_eq_zero hn
    rcases h with ⟨rfl, _⟩ | ⟨rfl, _⟩
    · obtain rfl : cap = 0 := hnil rfl
      exact plainField_nil w
    · exact plainField_some0 g cap w hN
  · rcases h with ⟨_, h⟩ | ⟨rfl, _, hc⟩
    · omega
    · exact plainField_any g n cap col d w hn (by omega) hcap hN hcol hb hc

/-- ZZplainField: plainField. -/
theorem zz_own (g : Nat) (ao : Option Addr) (n cap col : Nat) (d : List Int) (w : World) (h : Own w g ao n d) (hnil : ao = none → cap = 0) (h0 : n = 0 → col = 0) (hcap : n ≤ cap) (hN : cap ≤ 1099511627776) (hcol : col ≤ 1099511627776) :
    Calls Try.prog 15 #[.slice ao n cap, .int .i64 col] w fun e w' => e = .returned (.tuple #[.int .i64 (Pl.from_ d col : Nat), .int .i64 (Pl.to_ d col : Nat)]) ∧ w' = w := by
  have HI := show Hid _ from pf_own g ao n cap col d w h hnil h0 hcap hN hcol
  clear h hnil h0
  go_enter Try.func15, Try.ntmps15
  go_wp2_with fail
  refine Calls.mono HI.out ?_
  rintro e w' ⟨rfl, rfl⟩
  go_wp2
  go_ret2
  exact ⟨rfl, rfl⟩

/-- What a row of the call's own holds, told by its whole block. -/
theorem cells_of_block {w : World} {g n : Nat} {d : List Int} (hn : d.length = n) {t : TypeId} (h : w.heap[g]? = some (.cells ((d.map (Value.int .u8)).toArray) t (0, 0))) :
    ∀ j, j < n → w.cell? ⟨g, j, none⟩ = some (.int .u8 (d.getD j 0)) := by
  intro j hj
  simp [World.cell?, h, List.getD_eq_getElem?_getD, show j < d.length by omega]

theorem copy_nil (w : World) : Calls Try.prog 17 #[.slice none 0 0] w fun e w' => e = .returned (.slice none 0 0) ∧ w' = w := by
  have q : ∀ (w : World) (a : Option Addr) (n c n' c' : Nat), (binOp .eql 29 (.slice a n c) (.slice none n' c')).run Try.prog w = .ok (.bool a.isNone) w := fun w a n c n' c' => Lib.run_eql_slice_nil w _ _ a n c n' c' Try.underlying29
  go_enter Try.func17, Try.ntmps17
  go_wp2
  go_ret
  exact ⟨rfl, rfl⟩

/-- 'copy(out, x)' of all of x into a row of the same length that the call itself made: its run. -/
theorem copy_run {P : Program} (w w1 : World) (T ty E : TypeId) (hu : P.underlying T = some (.slice E)) (hs : (P.info? E).map (·.size) = some 1) (x : Addr) (n cap : Nat) (d : List Int) (hn : d.length = n)
    (cur : Array Value) (hcur : w1.heap[w.heap.size]? = some (.cells cur E (0, 0))) (hcs : cur.size = n) (hb : Below w.heap.size w w1)
    (hc : ∀ j, j < n → w.cell? (x.add j) = some (.int .u8 (d.getD j 0))) :
    ∃ w2, (Builtin.copy_ #[T, T] ty #[.slice (some ⟨w.heap.size, 0, none⟩) n n, .slice (some x) n cap]).run P w1 = .ok (.int .i64 (n : Int)) w2 ∧
      w2.heap[w.heap.size]? = some (.cells ((d.map (Value.int .u8)).toArray) E (0, 0)) ∧ Below w.heap.size w w2 := by
  have hr := run_copy_row (P := P) w1 T T ty E w.heap.size 0 n n x n cap cur E (d.map (Value.int .u8)) hu hs hcur (by simp [hn]) (by
    intro j v hj
    have hjl : j < d.length := by
      have := (List.getElem?_eq_some_iff.1 hj).1
      simpa using this
    have h1 := hc j (by omega)
    have hlt := World.block_lt_of_cell? w _ h1
    rw [hb.cell hlt, h1]
    rw [← hj]
    simp [List.getD_eq_getElem?_getD, hjl]) (by simp [hn, hcs]) (ints_oneCell _ _)
  have hd : cur.toList.drop (0 + (d.map (Value.int .u8)).length) = [] := by
    apply List.drop_eq_nil_of_le
    simp [hn, hcs]
  rw [hd] at hr
  refine ⟨w1.setRow w.heap.size ((d.map (Value.int .u8)).toArray), ?_, ?_, below_setRow hb (Nat.le_refl _) _⟩
  · rw [hr]; simp [goInt, hn]
  · exact setRow_heap w1 _ cur _ E (0, 0) hcur

set_option maxHeartbeats 400000 in
theorem copy_any (x : Addr) (n cap : Nat) (d : List Int) (w : World) (hn : d.length = n) (hN : n ≤ 1099511627776) (hc : ∀ j, j < n → w.cell? (x.add j) = some (.int .u8 (d.getD j 0))) :
    Calls Try.prog 17 #[.slice (some x) n cap] w fun e w' => e = .returned (.slice (some ⟨w.heap.size, 0, none⟩) n n) ∧ Below w.heap.size w w' ∧ w.heap.size < w'.heap.size ∧
      ∀ j, j < n → w'.cell? ⟨w.heap.size, j, none⟩ = some (.int .u8 (d.getD j 0)) := by
  have q : ∀ (w : World) (a : Option Addr) (n c n' c' : Nat), (binOp .eql 29 (.slice a n c) (.slice none n' c')).run Try.prog w = .ok (.bool a.isNone) w := fun w a n c n' c' => Lib.run_eql_slice_nil w _ _ a n c n' c' Try.underlying29
  obtain ⟨i0, hi, hz0, hz1, hz2⟩ := info_parts info5
  have HC : Hid (∀ j, j < n → w.cell? (x.add j) = some (.int .u8 (d.getD j 0))) := hc
  clear hc
  go_enter Try.func17, Try.ntmps17
  go_wp2_with (at_make; refine wpList_make_full _ rfl _ _ 29 rfl w.heap.size 5 i0 (.int .u8 0) 1 Try.underlying29 hi hz0 hz1 _ _ _ _ n rfl rfl (by omega) (by omega) (by rw [hz2]; omega) (by unfold maxLen; omega) (Nat.le_refl _) ?_)
  intro w1 hown hgrow
  obtain ⟨cur, hcur, hcs⟩ : ∃ cur : Array Value, w1.heap[w.heap.size]? = some (.cells cur 5 (0, 0)) ∧ cur.size = n := by
    rcases hown.2 with ⟨h, _⟩ | ⟨g, cap', cur, hv, _, hh, _, _, hs, _⟩
    · cases h
    · simp at hv; obtain ⟨rfl, rfl⟩ := hv
      exact ⟨cur, hh, by simpa using hs⟩
  have HB : Hid (Below w.heap.size w w1) := (Below.refl _ _).grown hgrow (Nat.le_refl _) (by simp)
  have HCU : Hid (w1.heap[w.heap.size]? = some (.cells cur 5 (0, 0))) := hcur
  clear hown hgrow hcur
  obtain ⟨w2, hrun, hblk, hb2⟩ := copy_run w w1 29 3 5 Try.underlying29 (by rw [hi]; simp [hz1]) x n cap d hn cur HCU.out hcs HB.out HC.out
  have HBL := show Hid _ from hblk
  have HB2 := show Hid _ from hb2
  clear hblk hb2
  go_wp2
  go_ret
  refine ⟨rfl, HB2.out, ?_, cells_of_block hn HBL.out⟩
  exact (Array.getElem?_eq_some_iff.1 HBL.out).1

/-- WHAT A SLICE OF BYTES THAT CAME IN IS (the shells' 'IsRow', at bytes). -/
def RowIn (w : World) (a : Option Addr) (len cap : Nat) (zs : List Int) : Prop :=
  (a = none ∧ len = 0 ∧ cap = 0 ∧ zs = []) ∨
  ∃ x, a = some x ∧ len ≤ cap ∧ cap ≤ maxLen ∧ zs.length = cap ∧ (∀ i, i < zs.length → w.cell? (x.add i) = some (.int .u8 (zs.getD i 0))) ∧ ∀ n ∈ zs, (Lit.int .u8 n).wf = true

theorem Own.none {w : World} {g n : Nat} {ao : Option Addr} {d : List Int} (h : Own w g ao n d) (e : ao = none) : n = 0 ∧ n = 0 := by
  rcases h.2.2 with h | ⟨h1, _⟩
  · exact ⟨h.2, h.2⟩
  · rw [h1] at e; cases e

theorem Own.news {w : World} {g n : Nat} {ao : Option Addr} {d : List Int} (h : Own w g ao n d) : ∀ ad, ao = some ad → ∀ j u, (d.map (Value.int .u8))[j]? = some u → w.cell? (ad.add j) = some u := by
  intro ad e j u hj
  rcases h.2.2 with ⟨h1, _⟩ | ⟨h1, _, h2⟩
  · rw [h1] at e; cases e
  · rw [h1] at e
    obtain rfl := Option.some.inj e
    have hjl : j < d.length := by
      have := (List.getElem?_eq_some_iff.1 hj).1
      simpa using this
    rw [Addr.add_lit, Nat.zero_add, h2 j (by have := h.1; omega), ← hj]
    simp [List.getD_eq_getElem?_getD, hjl]

/-- A row that the call itself filled. -/
theorem own_of_row {w : World} {base g n cap : Nat} {d : List Int} (hb : ∀ x ∈ d, 0 ≤ x ∧ x ≤ 255) (h : w.ownsRow base 5 1 (.slice (some ⟨g, 0, none⟩) n cap) n (d.map (Value.int .u8))) : Own w g (some ⟨g, 0, none⟩) n d := by
  obtain ⟨hl, h | ⟨g', cap', cur, hv, _, hh, hn, _, hs, ht⟩⟩ := h
  · cases h.1
  · simp at hv
    obtain ⟨rfl, rfl⟩ := hv
    have hl' : d.length = n := by simpa using hl
    refine ⟨hl', hb, .inr ⟨rfl, (Array.getElem?_eq_some_iff.1 hh).1, fun j hj => ?_⟩⟩
    have hc : (cur.toList.take (n * 1))[j]? = (d.map (Value.int .u8))[j]? := by rw [ht]
    rw [List.getElem?_take, if_pos (by omega)] at hc
    simp only [World.cell?, hh]
    simp only [Array.getElem?_toList, List.getElem?_map] at hc
    simp [hc, List.getD_eq_getElem?_getD, show j < d.length by omega]

theorem bytes_of_wf {zs : List Int} (h : ∀ n ∈ zs, (Lit.int .u8 n).wf = true) : ∀ x ∈ zs, 0 ≤ x ∧ x ≤ 255 := by
  intro x hx
  exact bounds_u8 (h x hx)

/-- cloneBytes, whatever it is handed. -/
theorem copy_row (a : Option Addr) (len cap : Nat) (zs : List Int) (w : World) (h : RowIn w a len cap zs) (hN : len ≤ 1099511627776) :
    Calls Try.prog 17 #[.slice a len cap] w fun e w' => ∃ ao, e = .returned (.slice ao len len) ∧ Below w.heap.size w w' ∧ Own w' w.heap.size ao len (zs.take len) := by
  rcases h with ⟨rfl, rfl, rfl, rfl⟩ | ⟨x, rfl, hl, hm, hz, hcell, hwf⟩
  · refine (copy_nil w).mono ?_
    rintro e w' ⟨rfl, rfl⟩
    exact ⟨none, rfl, Below.refl _ _, by simp, by simp, .inl ⟨rfl, rfl⟩⟩
  · refine (copy_any x len cap (zs.take len) w (by simp; omega) hN ?_).mono ?_
    · intro j hj
      rw [hcell j (by omega)]
      simp [List.getD_eq_getElem?_getD, List.getElem?_take, hj]
    · rintro e w' ⟨rfl, hb, hs, hc⟩
      exact ⟨_, rfl, hb, by simp; omega, fun x hx => bytes_of_wf hwf x (List.mem_of_mem_take hx), .inr ⟨rfl, hs, hc⟩⟩


set_option maxHeartbeats 400000 in
/-- lineEndLen. -/
theorem lineEnd_any (g n cap : Nat) (d : List Int) (w : World) (hn : d.length = n) (hpos : 0 < n) (hN : n ≤ 1099511627776) (hc : ∀ j, j < n → w.cell? ⟨g, j, none⟩ = some (.int .u8 (d.getD j 0))) :
    Calls Try.prog 18 #[.slice (some ⟨g, 0, none⟩) n cap] w fun e w' => e = .returned (.int .i64 (Pl.lel d : Nat)) ∧ w' = w := by
  obtain ⟨c1, hc1⟩ : ∃ c, c = d.getD (n - 1) 0 := ⟨_, rfl⟩
  have hcell1 : w.cell? ⟨g, n - 1, none⟩ = some (.int .u8 c1) := by rw [hc _ (by omega), hc1]
  obtain ⟨c2, hc2⟩ : ∃ c, c = d.getD (n - 2) 0 := ⟨_, rfl⟩
  have hcell2 : 2 ≤ n → w.cell? ⟨g, n - 2, none⟩ = some (.int .u8 c2) := by intro h; rw [hc _ (by omega), hc2]
  have HL : Hid (Pl.lel d = if 2 ≤ n ∧ c2 = 13 ∧ c1 = 10 then 2 else if c1 = 10 ∨ c1 = 13 then 1 else 0) := by
    show _ = _
    unfold Pl.lel
    rw [hn, ← hc1, ← hc2]
    by_cases h1 : c1 = 10 ∨ c1 = 13
    · rw [if_pos h1, if_pos (show 1 ≤ n ∧ (c1 = 10 ∨ c1 = 13) from ⟨by omega, h1⟩)]
    · rw [if_neg h1, if_neg (show ¬ (1 ≤ n ∧ (c1 = 10 ∨ c1 = 13)) from fun h => h1 h.2)]
  clear hc hc1 hc2
  go_enter Try.func18, Try.ntmps18
  by_cases h2 : 2 ≤ n
  · have hcell2' := hcell2 h2
    clear hcell2
    go_wp2
    all_goals (go_ret; refine ⟨ret_int ?_, rfl⟩; rw [HL.out]; simp_all)
  · clear hcell2
    have HL' : Hid (Pl.lel d = if c1 = 10 ∨ c1 = 13 then 1 else 0) := by
      show _ = _
      rw [HL.out, if_neg (fun h => h2 h.1)]
    clear HL
    go_wp2
    all_goals (go_ret; refine ⟨ret_int ?_, rfl⟩; rw [HL'.out]; simp_all)

theorem lineEnd_zero (ao : Option Addr) (cap : Nat) (w : World) :
    Calls Try.prog 18 #[.slice ao 0 cap] w fun e w' => e = .returned (.int .i64 0) ∧ w' = w := by
  go_enter Try.func18, Try.ntmps18
  go_wp2
  go_ret
  exact ⟨rfl, rfl⟩

theorem lineEnd_own (g : Nat) (ao : Option Addr) (n cap : Nat) (d : List Int) (w : World) (h : Own w g ao n d) (hN : n ≤ 1099511627776) :
    Calls Try.prog 18 #[.slice ao n cap] w fun e w' => e = .returned (.int .i64 (Pl.lel d : Nat)) ∧ w' = w := by
  obtain ⟨hn, hb, h⟩ := h
  by_cases hz : n = 0
  · subst hz
    obtain rfl : d = [] := List.eq_nil_of_length_eq_zero hn
    exact lineEnd_zero ao cap w
  · rcases h with ⟨_, h⟩ | ⟨rfl, _, hc⟩
    · omega
    · exact lineEnd_any g n cap d w hn (by omega) hN hc
end Go.Proofs.Qxb6600576a
