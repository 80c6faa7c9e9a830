/-
  THE WALKS: firstIndex, cloneStrings; append(line, s...) within the capacity.
-/
import Derived.Test.Qxb6600576aWalkB
import Derived.Test.Qxb6600576aPlain2
import Derived.Lib.AppendStr
namespace Go.Proofs.Qxb6600576a
open Go.RowKit
set_option linter.unusedSimpArgs false
set_option linter.unusedVariables false

/-- A string's bytes as numbers. -/
def bs (s : ByteArray) : List Int := s.data.toList.map fun b => (b.toNat : Int)

theorem bs_length (s : ByteArray) : (bs s).length = s.size := by
  rw [bs, List.length_map, Array.length_toList]
  rfl

theorem strCells_bs (s : ByteArray) : Lib.strCells s = (bs s).map (Value.int .u8) := by
  simp [Lib.strCells, bs]

theorem bs_range (s : ByteArray) : ∀ x ∈ bs s, 0 ≤ x ∧ x ≤ 255 := by
  intro x hx
  simp only [bs, List.mem_map] at hx
  obtain ⟨b, _, rfl⟩ := hx
  have := b.toNat_lt
  omega

theorem bs_get (s : ByteArray) (k : Nat) (h : k < s.size) : (bs s).getD k 0 = ((s[k]'h).toNat : Int) := by
  have hl : k < s.data.toList.length := by rw [Array.length_toList]; exact h
  have e : s[k]'h = s.data.toList[k] := by
    simp
    rfl
  rw [e]
  simp only [bs, List.getD_eq_getElem?_getD, List.getElem?_map]
  rw [List.getElem?_eq_getElem hl]
  rfl

/-- 'append(line, s...)', line a row of the call's own with room for it: its run. -/
theorem run_append_fits_string {P : Program} (w : World) (base : Nat) (t u ty e : TypeId) (i : TypeInfo) (ht : P.underlying t = some (.slice e)) (hu : P.underlying u = some .string) (hi : P.info? e = some i) (hsize : i.size = 1)
    (g n cap : Nat) (xs : List Value) (hown : w.ownsRow base e 1 (.slice (some ⟨g, 0, none⟩) n cap) n xs) (s : ByteArray) (hroom : n + s.size ≤ cap) :
    ∃ w', (Builtin.append_ #[t, u] ty #[.slice (some ⟨g, 0, none⟩) n cap, .string s]).run P w = .ok (.slice (some ⟨g, 0, none⟩) (n + s.size) cap) w' ∧
      w'.ownsRow base e 1 (.slice (some ⟨g, 0, none⟩) (n + s.size) cap) (n + s.size) (xs ++ Lib.strCells s) ∧ w.grownBy w' (some g) := by
  have hxl : xs.length = n := by simpa using hown.1
  have hlen : (xs ++ Lib.strCells s).length = (n + s.size) * 1 := by rw [List.length_append, hxl, Lib.strCells_length, Nat.mul_one]
  rcases hown.2 with ⟨h, _⟩ | ⟨g', cap', cur, hv, hbg, hg, hnc, hcm, hcs, htake⟩
  · cases h
  · simp at hv
    obtain ⟨rfl, rfl⟩ := hv
    have hcs' : cur.size = cap := by simpa using hcs
    have hr := Lib.run_append_room_string (P := P) w t u ty e i ht hu hi hsize g n cap cur hg s hroom (by omega)
    refine ⟨_, hr, ⟨hlen, .inr ⟨g, cap, _, rfl, hbg, setRow_heap w g cur _ e _ hg, hroom, hcm, ?_, ?_⟩⟩, ⟨rfl, rfl, rfl, by simp, fun k _ hk => setRow_other w g k _ (fun e => hk (by simp [e]))⟩⟩
    · simp only [List.size_toArray, List.length_append, List.length_take, List.length_drop, Array.length_toList, Lib.strCells_length]
      omega
    · have ht' : cur.toList.take n = xs := by simpa using htake
      rw [ht', ← hlen]
      exact List.take_left

theorem wpList_append_fits_string {P : Program} (w : World) {ops : Array Oper} {rest : List Oper} {o : Oper} {a : Act} {Q : Exit → Act → World → Prop} (hgd : o.guard = none) (sl x : Operand) (t u : TypeId)
    (ho : o.op = .call { callee := .builtin .append, args := #[sl, x], argTypes := #[t, u] })
    (base : Nat) (e : TypeId) (i : TypeInfo) (ht : P.underlying t = some (.slice e)) (hu : P.underlying u = some .string) (hi : P.info? e = some i) (hsize : i.size = 1)
    (g n cap : Nat) (xs : List Value) (hs : a.eval sl = .slice (some ⟨g, 0, none⟩) n cap) (hown : w.ownsRow base e 1 (.slice (some ⟨g, 0, none⟩) n cap) n xs) (s : ByteArray) (hx : a.eval x = .string s) (hroom : n + s.size ≤ cap)
    (h : ∀ w', w'.ownsRow base e 1 (.slice (some ⟨g, 0, none⟩) (n + s.size) cap) (n + s.size) (xs ++ Lib.strCells s) → w.grownBy w' (some g) → wpList P ops Q rest (a.put o.dst (.slice (some ⟨g, 0, none⟩) (n + s.size) cap)) w') : wpList P ops Q (o :: rest) a w := by
  refine wpList_plain hgd fun K hK => ?_
  obtain ⟨w', hr, h2, h3⟩ := run_append_fits_string (P := P) w base t u o.type e i ht hu hi hsize g n cap xs hown s hroom
  unfold Oper.wp execOp
  simp only [ho, resolve, invoke, builtin, Sem.run_bind, Sem.run_pure, Result.andThen_ok, List.map_toArray, List.map_cons, List.map_nil, hs, hx, hr]
  exact hK _ _ (h w' h2 h3)

set_option maxHeartbeats 400000 in
/-- firstIndex of a comma. -/
theorem firstIndex_any (s : ByteArray) (w : World) (hs : s.size ≤ maxLen) :
    Calls Try.prog 12 #[.string s, .int .u8 44] w fun e w' => (∃ v : Int, e = .returned (.int .i64 v) ∧ ((0 ≤ v) ∨ (v = -1 ∧ ∀ x ∈ bs s, x ≠ 44))) ∧ w' = w := by
  unfold maxLen at hs
  go_enter Try.func12, Try.ntmps12
  go_wp2
  go_loop [5] (fun i => ∃ k : Nat, k ≤ s.size ∧ i = .int .i64 k ∧ Hid (∀ j, j < k → (bs s).getD j 0 ≠ 44)) (fun i => s.size - (intOf i).toNat)
  case atStart => exact ⟨0, by omega, by go_num, fun j hj => by omega⟩
  case round =>
    obtain ⟨k, hk, rfl, HK⟩ := hrel
    by_cases hlt : k < s.size
    · have HB : Hid ((bs s).getD k 0 = (s[k].toNat : Int)) := bs_get s k hlt
      by_cases h44 : ((s[k].toNat : Int) == 44) = true
      · go_wp2
        go_ret
        exact ⟨⟨_, rfl, .inl (by omega)⟩, rfl⟩
      · have h44' : ((s[k].toNat : Int) == 44) = false := by simpa using h44
        clear h44
        go_wp2
        go_round
        case rel =>
          refine ⟨k + 1, by omega, by go_num, fun j hj => ?_⟩
          by_cases hjk : j < k
          · exact HK.out j hjk
          · obtain rfl : j = k := by omega
            rw [HB.out]; exact beq_eq_false_iff_ne.1 h44'
        case measure => simp [intOf]; omega
    · go_wp2
      go_ret
      refine ⟨⟨_, rfl, .inr ⟨rfl, ?_⟩⟩, rfl⟩
      intro x hx
      obtain ⟨j, hj⟩ := List.getElem?_of_mem hx
      have hjl := (List.getElem?_eq_some_iff.1 hj).1
      rw [bs_length] at hjl
      have := HK.out j (by omega)
      rwa [List.getD_eq_getElem?_getD, hj] at this

theorem info9 : (Try.prog.info? 9).map (fun i => (i.zero, i.size, i.bytes)) = some (some (.string ByteArray.empty), 1, 16) := by kernel_rfl

/-- 'copy(out, x)' of all of x into a row of the same length that the call itself made: its run, whatever the cells. -/
theorem copy_run_any {P : Program} (w w1 : World) (T ty E : TypeId) (hu : P.underlying T = some (.slice E)) (hs : (P.info? E).map (·.size) = some 1) (x : Addr) (n cap : Nat) (vs : List Value) (hn : vs.length = n)
    (cur : Array Value) (hcur : w1.heap[w.heap.size]? = some (.cells cur E (0, 0))) (hcs : cur.size = n) (hb : Below w.heap.size w w1)
    (hc : ∀ j v, vs[j]? = some v → w.cell? (x.add j) = some v) (h1 : ∀ v ∈ vs, v.oneCell' = true) :
    ∃ w2, (Builtin.copy_ #[T, T] ty #[.slice (some ⟨w.heap.size, 0, none⟩) n n, .slice (some x) n cap]).run P w1 = .ok (.int .i64 (n : Int)) w2 ∧
      w2.heap[w.heap.size]? = some (.cells vs.toArray E (0, 0)) ∧ Below w.heap.size w w2 := by
  have hr := run_copy_row (P := P) w1 T T ty E w.heap.size 0 n n x n cap cur E vs hu hs hcur (by simp [hn]) (by
    intro j v hj
    have h1 := hc j v hj
    have hlt := World.block_lt_of_cell? w _ h1
    rw [hb.cell hlt, h1]) (by simp [hn, hcs]) h1
  have hd : cur.toList.drop (0 + vs.length) = [] := by
    apply List.drop_eq_nil_of_le
    simp [hn, hcs]
  rw [hd] at hr
  refine ⟨w1.setRow w.heap.size vs.toArray, ?_, ?_, below_setRow hb (Nat.le_refl _) _⟩
  · rw [hr]; simp [goInt, hn]
  · exact setRow_heap w1 _ cur _ E (0, 0) hcur

theorem strs_oneCell (ss : List ByteArray) : ∀ v ∈ ss.map Value.string, v.oneCell' = true := by
  intro v hv
  obtain ⟨_, _, rfl⟩ := List.mem_map.1 hv
  rfl

set_option maxHeartbeats 400000 in
theorem cloneStrings_any (x : Addr) (n cap : Nat) (ss : List ByteArray) (w : World) (hn : ss.length = n) (hN : n ≤ 1099511627776) (hc : ∀ j, j < n → w.cell? (x.add j) = some (.string (ss.getD j ByteArray.empty))) :
    Calls Try.prog 14 #[.slice (some x) n cap] w fun e w' => e = .returned (.slice (some ⟨w.heap.size, 0, none⟩) n n) ∧ Below w.heap.size w w' ∧ w.heap.size < w'.heap.size ∧
      ∀ j, j < n → w'.cell? ⟨w.heap.size, j, none⟩ = some (.string (ss.getD j ByteArray.empty)) := by
  have q : ∀ (w : World) (a : Option Addr) (n c n' c' : Nat), (binOp .eql 26 (.slice a n c) (.slice none n' c')).run Try.prog w = .ok (.bool a.isNone) w := fun w a n c n' c' => Lib.run_eql_slice_nil w _ _ a n c n' c' Try.underlying26
  obtain ⟨i0, hi, hz0, hz1, hz2⟩ := info_parts info9
  have HC : Hid (∀ j, j < n → w.cell? (x.add j) = some (.string (ss.getD j ByteArray.empty))) := hc
  clear hc
  go_enter Try.func14, Try.ntmps14
  go_wp2_with (at_make; refine wpList_make_full _ rfl _ _ 26 rfl w.heap.size 9 i0 (.string ByteArray.empty) 1 Try.underlying26 hi hz0 hz1 _ _ _ _ n rfl rfl (by omega) (by omega) (by rw [hz2]; omega) (by unfold maxLen; omega) (Nat.le_refl _) ?_)
  intro w1 hown hgrow
  obtain ⟨cur, hcur, hcs⟩ : ∃ cur : Array Value, w1.heap[w.heap.size]? = some (.cells cur 9 (0, 0)) ∧ cur.size = n := by
    rcases hown.2 with ⟨h, _⟩ | ⟨g, cap', cur, hv, _, hh, _, _, hs, _⟩
    · cases h
    · simp at hv; obtain ⟨rfl, rfl⟩ := hv
      exact ⟨cur, hh, by simpa using hs⟩
  have HB : Hid (Below w.heap.size w w1) := (Below.refl _ _).grown hgrow (Nat.le_refl _) (by simp)
  have HCU : Hid (w1.heap[w.heap.size]? = some (.cells cur 9 (0, 0))) := hcur
  clear hown hgrow hcur
  obtain ⟨w2, hrun, hblk, hb2⟩ := copy_run_any w w1 26 3 9 Try.underlying26 (by rw [hi]; simp [hz1]) x n cap (ss.map Value.string) (by simp [hn]) cur HCU.out hcs HB.out (by
    intro j v hj
    have hjl : j < ss.length := by
      have := (List.getElem?_eq_some_iff.1 hj).1
      simpa using this
    rw [HC.out j (by omega), ← hj]
    simp [List.getD_eq_getElem?_getD, hjl]) (strs_oneCell ss)
  have HBL := show Hid _ from hblk
  have HB2 := show Hid _ from hb2
  clear hblk hb2
  go_wp2
  go_ret
  refine ⟨rfl, HB2.out, (Array.getElem?_eq_some_iff.1 HBL.out).1, ?_⟩
  intro j hj
  have hh := HBL.out
  simp [World.cell?, hh, List.getD_eq_getElem?_getD, show j < ss.length by omega]
end Go.Proofs.Qxb6600576a
