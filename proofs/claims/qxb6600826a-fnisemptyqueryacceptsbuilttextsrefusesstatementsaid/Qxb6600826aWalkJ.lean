/-
  THE LAW FnIsEmptyQueryAcceptsBuiltTextsRefusesStatement, WALKED.
-/
import Derived.Test.Qxb6600826aWalkD
import Derived.Test.Qxb6600826aWalkG
import Derived.Test.Qxb6600826aWalkH
import Derived.Test.Qxb6600826aWalkI
import Derived.Lib.AppendStr
namespace Go.Proofs.Qxb6600826a
open Go.RowKit
set_option linter.unusedSimpArgs false
set_option linter.unusedVariables false

theorem strCells_bs (s : ByteArray) : Lib.strCells s = (bs s).map (Value.int .u8) := by
  simp [Lib.strCells, bs]

theorem bs_strOfNums (l : List Int) (h : ∀ y ∈ l, 0 ≤ y ∧ y ≤ 255) : bs (strOfNums l) = l := by
  unfold bs
  rw [strOfNums_data, List.map_map]
  conv => rhs; rw [← List.map_id l]
  apply List.map_congr_left
  intro y hy
  have := h y hy
  simp
  omega

/-- 'append(line, s...)', line a row of the call's own with room for it: its run. -/
theorem run_append_fits_string {P : Program} (w : World) (base : Nat) (t u ty e : TypeId) (i : TypeInfo) (ht : P.underlying t = some (.slice e)) (hu : P.underlying u = some .string) (hi : P.info? e = some i) (hsize : i.size = 1)
    (g n cap : Nat) (xs : List Value) (hown : w.ownsRow base e 1 (.slice (some ⟨g, 0, none⟩) n cap) n xs) (s : ByteArray) (hroom : n + s.size ≤ cap) :
    ∃ w', (Builtin.append_ #[t, u] ty #[.slice (some ⟨g, 0, none⟩) n cap, .string s]).run P w = .ok (.slice (some ⟨g, 0, none⟩) (n + s.size) cap) w' ∧
      w'.ownsRow base e 1 (.slice (some ⟨g, 0, none⟩) (n + s.size) cap) (n + s.size) (xs ++ Lib.strCells s) ∧ w.grownBy w' (some g) := by
  have hxl : xs.length = n := by simpa using hown.1
  have hlen : (xs ++ Lib.strCells s).length = (n + s.size) * 1 := by rw [List.length_append, hxl, Lib.strCells_length, Nat.mul_one]
  rcases hown.2 with ⟨h, _⟩ | ⟨g', cap', cur, hv, hbg, hg, hnc, hcm, hcs, htake⟩
  · cases h
  · simp at hv
    obtain ⟨rfl, rfl⟩ := hv
    have hcs' : cur.size = cap := by simpa using hcs
    have hr := Lib.run_append_room_string (P := P) w t u ty e i ht hu hi hsize g n cap cur hg s hroom (by omega)
    refine ⟨_, hr, ⟨hlen, .inr ⟨g, cap, _, rfl, hbg, setRow_heap w g cur _ e _ hg, hroom, hcm, ?_, ?_⟩⟩, ⟨rfl, rfl, rfl, by simp, fun k _ hk => setRow_other w g k _ (fun e => hk (by simp [e]))⟩⟩
    · simp only [List.size_toArray, List.length_append, List.length_take, List.length_drop, Array.length_toList, Lib.strCells_length]
      omega
    · have ht' : cur.toList.take n = xs := by simpa using htake
      rw [ht', ← hlen]
      exact List.take_left

theorem wpList_append_fits_string {P : Program} (w : World) {ops : Array Oper} {rest : List Oper} {o : Oper} {a : Act} {Q : Exit → Act → World → Prop} (hgd : o.guard = none) (sl x : Operand) (t u : TypeId)
    (ho : o.op = .call { callee := .builtin .append, args := #[sl, x], argTypes := #[t, u] })
    (base : Nat) (e : TypeId) (i : TypeInfo) (ht : P.underlying t = some (.slice e)) (hu : P.underlying u = some .string) (hi : P.info? e = some i) (hsize : i.size = 1)
    (g n cap : Nat) (xs : List Value) (hs : a.eval sl = .slice (some ⟨g, 0, none⟩) n cap) (hown : w.ownsRow base e 1 (.slice (some ⟨g, 0, none⟩) n cap) n xs) (s : ByteArray) (hx : a.eval x = .string s) (hroom : n + s.size ≤ cap)
    (h : ∀ w', w'.ownsRow base e 1 (.slice (some ⟨g, 0, none⟩) (n + s.size) cap) (n + s.size) (xs ++ Lib.strCells s) → w.grownBy w' (some g) → wpList P ops Q rest (a.put o.dst (.slice (some ⟨g, 0, none⟩) (n + s.size) cap)) w') : wpList P ops Q (o :: rest) a w := by
  refine wpList_plain hgd fun K hK => ?_
  obtain ⟨w', hr, h2, h3⟩ := run_append_fits_string (P := P) w base t u o.type e i ht hu hi hsize g n cap xs hown s hroom
  unfold Oper.wp execOp
  simp only [ho, resolve, invoke, builtin, Sem.run_bind, Sem.run_pure, Result.andThen_ok, List.map_toArray, List.map_cons, List.map_nil, hs, hx, hr]
  exact hK _ _ (h w' h2 h3)


/-- cloneBytes, whatever it is handed. -/
theorem cloneB_row (a : Option Addr) (len cap : Nat) (zs : List Int) (w : World) (h : RowB w a len cap zs) (hN : len ≤ 1099511627776) :
    Calls Try.prog 17 #[.slice a len cap] w fun e w' => ∃ ao, e = .returned (.slice ao len len) ∧ Below w.heap.size w w' ∧
      (0 < len → ao = some ⟨w.heap.size, 0, none⟩ ∧ w.heap.size < w'.heap.size ∧ ∀ k, k < len → w'.cell? ⟨w.heap.size, k, none⟩ = some (.int .u8 ((zs.take len).getD k 0))) := by
  obtain ⟨_, hl, _, hX⟩ := rowB_cells h
  by_cases hp : 0 < len
  · obtain ⟨b, off, rfl, hc⟩ := hX hp
    refine (cloneB_any b off len cap (zs.take len) w hl hN hp hc).mono ?_
    rintro e w' ⟨rfl, hb, hs, hcc⟩
    exact ⟨_, rfl, hb, fun _ => ⟨rfl, hs, hcc⟩⟩
  · obtain rfl : len = 0 := by omega
    rcases h with ⟨rfl, _, rfl, _⟩ | ⟨x, rfl, _⟩
    · refine (cloneB_nil w).mono ?_
      rintro e w' ⟨rfl, rfl⟩
      exact ⟨none, rfl, Below.refl _ _, fun h => by omega⟩
    · refine (cloneB_empty x cap w).mono ?_
      rintro e w' ⟨rfl, hb⟩
      exact ⟨_, rfl, hb, fun h => by omega⟩

/-- cloneStrings, whatever it is handed. -/
theorem cloneS_row (a : Option Addr) (len cap : Nat) (ss : List ByteArray) (w : World) (h : RowS w a len cap ss) (hN : len ≤ 1099511627776) :
    Calls Try.prog 18 #[.slice a len cap] w fun e w' => ∃ ao, e = .returned (.slice ao len len) ∧ Below w.heap.size w w' ∧
      (0 < len → ao = some ⟨w.heap.size, 0, none⟩ ∧ w.heap.size < w'.heap.size ∧ ∀ k, k < len → w'.cell? ⟨w.heap.size, k, none⟩ = some (.string ((ss.take len).getD k ByteArray.empty))) := by
  obtain ⟨_, hl, _, hX⟩ := rowS_cells h
  by_cases hp : 0 < len
  · obtain ⟨b, off, rfl, hc⟩ := hX hp
    refine (cloneS_any b off len cap (ss.take len) w hl hN hp hc).mono ?_
    rintro e w' ⟨rfl, hb, hs, hcc⟩
    exact ⟨_, rfl, hb, fun _ => ⟨rfl, hs, hcc⟩⟩
  · obtain rfl : len = 0 := by omega
    rcases h with ⟨rfl, _, rfl, _⟩ | ⟨x, rfl, _⟩
    · refine (cloneS_nil w).mono ?_
      rintro e w' ⟨rfl, rfl⟩
      exact ⟨none, rfl, Below.refl _ _, fun h => by omega⟩
    · refine (cloneS_empty x cap w).mono ?_
      rintro e w' ⟨rfl, hb⟩
      exact ⟨_, rfl, hb, fun h => by omega⟩

theorem RowS.keep {w w' : World} {a : Option Addr} {len cap : Nat} {ss : List ByteArray} (h : RowS w a len cap ss) (hb : Below w.heap.size w w') : RowS w' a len cap ss := by
  rcases h with h | ⟨x, h1, h2, h3, h4, h5, h6⟩
  · exact .inl h
  · refine .inr ⟨x, h1, h2, h3, h4, fun i hi => ?_, h6⟩
    have := h5 i hi
    rw [hb.cell (World.block_lt_of_cell? w _ this)]; exact this

/-- A buffer's shape and cells. -/
theorem Buf.shape {B : Nat} {w0 w : World} {v : Value} {D : List Int} (h : Buf B w0 w v D) : ∃ g cap, v = .slice (some ⟨g, 0, none⟩) D.length cap ∧ g < w.heap.size ∧ (∀ j, j < D.length → w.cell? ⟨g, j, none⟩ = some (.int .u8 (D.getD j 0))) := by
  obtain ⟨_, ⟨hl, h1⟩, hne, _⟩ := h
  rcases h1 with ⟨h1, _⟩ | ⟨g, cap, cur, hv, _, hh, hn, _, hs, ht⟩
  · exact absurd h1 hne
  · refine ⟨g, cap, hv, (Array.getElem?_eq_some_iff.1 hh).1, fun j hj => ?_⟩
    have hc : (cur.toList.take (D.length * 1))[j]? = (D.map (Value.int .u8))[j]? := by rw [ht]
    rw [List.getElem?_take, if_pos (by omega)] at hc
    simp only [World.cell?, hh]
    simp only [Array.getElem?_toList, List.getElem?_map] at hc
    simp [hc, List.getD_eq_getElem?_getD, hj]

theorem row_shape {w : World} {base g n cap : Nat} {D : List Int} (hn : D.length = n) (h : w.ownsRow base 5 1 (.slice (some ⟨g, 0, none⟩) n cap) n (D.map (Value.int .u8))) : ∀ j, j < n → w.cell? ⟨g, j, none⟩ = some (.int .u8 (D.getD j 0)) := by
  obtain ⟨hl, h | ⟨g', cap', cur, hv, _, hh, _, _, hs, ht⟩⟩ := h
  · cases h.1
  · simp at hv
    obtain ⟨rfl, rfl⟩ := hv
    intro j hj
    have hc : (cur.toList.take (n * 1))[j]? = (D.map (Value.int .u8))[j]? := by rw [ht]
    rw [List.getElem?_take, if_pos (by omega)] at hc
    simp only [World.cell?, hh]
    simp only [Array.getElem?_toList, List.getElem?_map] at hc
    simp [hc, List.getD_eq_getElem?_getD, show j < D.length by omega]

theorem conv_run (w : World) (g n cap : Nat) (D : List Int) (hn : D.length = n) (hc : ∀ j, j < n → w.cell? ⟨g, j, none⟩ = some (.int .u8 (D.getD j 0))) :
    (convert 27 9 (.slice (some ⟨g, 0, none⟩) n cap)).run Try.prog w = .ok (.string (strOfNums D)) w :=
  run_convert_bytes_arg w 27 5 Try.underlying27 Try.underlying5 g 0 n cap D hn (fun i hi => by rw [Nat.zero_add]; exact hc i hi) 9 Try.underlying9

set_option maxRecDepth 100000 in
set_option maxHeartbeats 4000000 in
theorem walk (a0 : Option Addr) (n0 c0 : Nat) (zs : List Int) (a1 : Option Addr) (n1 c1 : Nat) (ss : List ByteArray) (c : Int) (tl : ByteArray) (w : World) (w0 : RowB w a0 n0 c0 zs) (w1 : RowS w a1 n1 c1 ss) (w2 : (Lit.int .u8 c).wf = true) (w3 : tl.size ≤ maxLen) :
    Calls Try.prog 6 #[.slice a0 n0 c0, .slice a1 n1 c1, .int .u8 c, .string tl] w fun e w' => e = .returned (.bool true) ∧ Below w.heap.size w w' := by
  obtain ⟨m0, _, hKr, _⟩ := rowB_cells w0
  obtain ⟨m1, _, hSm, hX1⟩ := rowS_cells w1
  obtain ⟨hc0, hc255⟩ := bounds_u8 w2
  have W0 : Hid (RowB w a0 n0 c0 zs) := w0
  have W1 : Hid (RowS w a1 n1 c1 ss) := w1
  obtain ⟨S, hS⟩ : ∃ S, S = ss.take n1 := ⟨_, rfl⟩
  obtain ⟨K, hK⟩ : ∃ K, K = zs.take n0 := ⟨_, rfl⟩
  rw [← hS] at hSm hX1
  rw [← hK] at hKr
  have HS : Hid (S = ss.take n1) := hS
  have HK : Hid (K = zs.take n0) := hK
  have HKR := show Hid _ from hKr
  have HSM := show Hid _ from hSm
  have HX1 := show Hid _ from hX1
  have M0 := show Hid _ from m0
  have M1 := show Hid _ from m1
  have M3 := show Hid _ from w3
  clear hS hK hKr hSm hX1 w0 w1 w2 m0 m1 w3
  go_enter Try.func6, Try.ntmps6
  go_wp2_with fail
  refine (bytes_any a0 a1 n0 c0 n1 c1 c tl S w M0.out M1.out M3.out HSM.out HX1.out).mono ?_
  rintro e w' ⟨⟨b, rfl⟩, rfl⟩
  cases b
  · go_wp2
    go_ret
    exact ⟨rfl, Below.refl _ _⟩
  · go_wp2_with fail
    refine (fits_any a0 a1 n0 c0 n1 c1 tl S w' M0.out M1.out M3.out HSM.out HX1.out).mono ?_
    rintro e w'' ⟨⟨b, rfl, hF⟩, rfl⟩
    cases b
    · go_wp2
      go_ret
      exact ⟨rfl, Below.refl _ _⟩
    · obtain ⟨g0, g1, g2, g3⟩ := hF rfl
      have HSZ := show Hid _ from g3
      clear hF g3
      go_wp2_with fail
      refine (space_any c _).mono ?_
      rintro e w3 ⟨rfl, rfl⟩
      cases hsp : Pl.space c
      · by_cases h45 : c = 45
        · subst h45
          go_wp2
          go_ret
          exact ⟨rfl, Below.refl _ _⟩
        · by_cases h47 : c = 47
          · subst h47
            go_wp2
            go_ret
            exact ⟨rfl, Below.refl _ _⟩
          · have HC := show Hid _ from Pl.isE_stop c (bs tl) hsp h45 h47
            have k45 : (c == 45) = false := beq_eq_false_iff_ne.2 h45
            have k47 : (c == 47) = false := beq_eq_false_iff_ne.2 h47
            clear h45 h47 hsp
            go_wp2_with fail
            refine (cloneB_row a0 n0 c0 zs _ W0.out (by omega)).mono ?_
            rintro e wa ⟨ao0, rfl, Ba, Ca⟩
            rw [← HK.out] at Ca
            have HBa : Hid (Below w3.heap.size w3 wa) := Ba
            have HCa := show Hid _ from Ca
            have W1a : Hid (RowS wa a1 n1 c1 ss) := W1.out.keep Ba
            have hsa : w3.heap.size ≤ wa.heap.size := Ba.size
            clear Ba Ca
            go_wp2_with fail
            refine (cloneS_row a1 n1 c1 ss _ W1a.out (by omega)).mono ?_
            rintro e wb ⟨ao1, rfl, Bb, Cb⟩
            rw [← HS.out] at Cb
            have HBb : Hid (Below wa.heap.size wa wb) := Bb
            have HCb := show Hid _ from Cb
            have hsb : wa.heap.size ≤ wb.heap.size := Bb.size
            clear Bb Cb
            go_wp2_with fail
            refine (build_any ao0 ao1 n0 n0 n1 n1 K S wb g0 g1 HSZ.out HKR.out (fun h => ?_) (fun h => ?_)).mono ?_
            · obtain ⟨e1, e2, e3⟩ := HCa.out h
              exact ⟨_, e1, by omega, fun k hk => by rw [HBb.out.cell (by exact e2)]; exact e3 k hk⟩
            · obtain ⟨e1, e2, e3⟩ := HCb.out h
              exact ⟨_, e1, e2, e3⟩
            rintro e wc ⟨v, D, rfl, Bc, hGood, hDl⟩
            obtain ⟨g, cap, rfl, hg, hcells⟩ := Bc.shape
            have HBc : Hid (Below wb.heap.size wb wc) := Bc.2.2.2
            have HCE := show Hid _ from hcells
            have HGood := show Hid _ from hGood
            have hconv := conv_run wc g D.length cap D rfl hcells
            have hsc : wb.heap.size ≤ wc.heap.size := HBc.out.size
            clear Bc hcells hGood
            have hstr : (strOfNums D).size = D.length := strOfNums_size D
            go_wp2_with fail
            refine (zzIs_any (strOfNums D) _ (by omega)).mono ?_
            rintro e wd ⟨rfl, Bd⟩
            have hE1 : Pl.isE (bs (strOfNums D)) = true := by
              rw [bs_strOfNums D HGood.out.2]
              have := HGood.out.1 []
              rw [List.append_nil] at this
              rw [this]; rfl
            rw [hE1]
            have HBd : Hid (Below wc.heap.size wc wd) := Bd
            have hsd : wc.heap.size ≤ wd.heap.size := Bd.size
            clear Bd hE1 hconv
            obtain ⟨i0, hi, hz0, hz1, hz2⟩ := info_parts info5
            go_wp2_with (at_make; refine wpList_make_own _ rfl _ _ 27 rfl wd.heap.size 5 i0 (.int .u8 0) 1 Try.underlying27 hi hz0 hz1 _ _ _ (D.length + 1 + tl.size) rfl rfl (by omega) (by rw [hz2]; omega) (by unfold maxLen; omega) (Nat.le_refl _) ?_)
            intro we howne hge
            have HBe : Hid (Below wd.heap.size wd we) := (Below.refl _ _).grown hge (Nat.le_refl _) (by simp)
            have HOe : Hid (we.ownsRow wd.heap.size 5 1 (.slice (some ⟨wd.heap.size, 0, none⟩) 0 (D.length + 1 + tl.size)) 0 []) := howne
            clear howne hge
            have HCE2 : Hid (∀ ad, (some (⟨g, 0, none⟩ : Addr)) = some ad → ∀ j u, (D.map (Value.int .u8))[j]? = some u → we.cell? (ad.add j) = some u) := by
              intro ad e j u hj
              obtain rfl := Option.some.inj e
              have hjl : j < D.length := by
                have := (List.getElem?_eq_some_iff.1 hj).1
                simpa using this
              rw [Addr.add_lit, Nat.zero_add, HBe.out.cell (by show g < _; omega), HBd.out.cell (by exact hg), HCE.out j hjl, ← hj]
              simp [List.getD_eq_getElem?_getD, hjl]
            go_wp2_with (at_builtin; refine wpList_append_fits_any _ rfl (.tmp 50) (.tmp 51) 27 rfl wd.heap.size 5 i0 1 Try.underlying27 hi hz1 wd.heap.size 0 (D.length + 1 + tl.size) [] rfl HOe.out (some ⟨g, 0, none⟩) D.length cap (D.map (Value.int .u8)) rfl (by simp) (by simp) HCE2.out (ints_oneCell _ _) (by omega) ?_)
            intro wf hownf hgf
            have HOf : Hid (wf.ownsRow wd.heap.size 5 1 (.slice (some ⟨wd.heap.size, 0, none⟩) D.length (D.length + 1 + tl.size)) D.length (D.map (Value.int .u8))) := by
              refine (show World.ownsRow _ _ _ _ _ _ _ from ?_)
              simpa using hownf
            have HBf : Hid (Below wd.heap.size wd wf) := HBe.out.grown hgf HBe.out.size (by simp)
            clear hownf hgf
            go_wp2_with (at_builtin; refine wpList_append_fits _ rfl (.tmp 53) (.tmp 55) 27 rfl wd.heap.size 5 i0 1 Try.underlying27 hi hz1 wd.heap.size D.length (D.length + 1 + tl.size) (D.map (Value.int .u8)) rfl (HOf.out.alloc _) ⟨wf.heap.size, 0, none⟩ 1 1 [.int .u8 c] rfl rfl (cell_one_new _ _ _) (by intro u hu; simp at hu; subst hu; rfl) (by omega) ?_)
            intro wg howng hgg
            have HBg : Hid (Below wd.heap.size wd wg) := (HBf.out.alloc HBf.out.size _).grown hgg (by have := HBf.out.size; simp; omega) (by simp)
            have HOg : Hid (wg.ownsRow wd.heap.size 5 1 (.slice (some ⟨wd.heap.size, 0, none⟩) (D.length + 1) (D.length + 1 + tl.size)) (D.length + 1) ((D ++ [c]).map (Value.int .u8))) := by
              refine (show World.ownsRow _ _ _ _ _ _ _ from ?_)
              rw [List.map_append]; exact howng
            clear howng hgg
            go_wp2_with (at_builtin; refine wpList_append_fits_string _ rfl (.tmp 57) (.tmp 58) 27 9 rfl wd.heap.size 5 i0 Try.underlying27 Try.underlying9 hi hz1 wd.heap.size (D.length + 1) (D.length + 1 + tl.size) _ rfl HOg.out tl rfl (by omega) ?_)
            intro wh hownh hgh
            have HBh : Hid (Below wd.heap.size wd wh) := HBg.out.grown hgh HBg.out.size (by simp)
            have hownh2 : wh.ownsRow wd.heap.size 5 1 (.slice (some ⟨wd.heap.size, 0, none⟩) (D.length + 1 + tl.size) (D.length + 1 + tl.size)) (D.length + 1 + tl.size) ((D ++ [c] ++ bs tl).map (Value.int .u8)) := by
              rw [strCells_bs] at hownh
              simpa using hownh
            have hln : (D ++ [c] ++ bs tl).length = D.length + 1 + tl.size := by simp [bs_length]; omega
            have hconv2 := conv_run wh wd.heap.size (D.length + 1 + tl.size) (D.length + 1 + tl.size) (D ++ [c] ++ bs tl) hln (row_shape hln hownh2)
            have hstr2 : (strOfNums (D ++ [c] ++ bs tl)).size = D.length + 1 + tl.size := by rw [strOfNums_size]; exact hln
            obtain ⟨q2, hq2⟩ : ∃ q2, q2 = strOfNums (D ++ [c] ++ bs tl) := ⟨_, rfl⟩
            rw [← hq2] at hconv2 hstr2
            have HQ2 : Hid (q2 = strOfNums (D ++ [c] ++ bs tl)) := hq2
            clear hownh hownh2 hgh hln hq2
            go_wp2_with fail
            refine (zzIs_any q2 _ (by omega)).mono ?_
            rintro e wi ⟨rfl, Bi⟩
            have hE2 : Pl.isE (bs q2) = false := by
              rw [HQ2.out, bs_strOfNums]
              · rw [List.append_assoc, HGood.out.1]
                exact HC.out
              · intro y hy
                simp only [List.mem_append, List.mem_singleton] at hy
                rcases hy with (h | h) | h
                · exact HGood.out.2 y h
                · omega
                · exact bs_range tl y h
            rw [hE2]
            have HBi : Hid (Below wh.heap.size wh wi) := Bi
            clear Bi hE2 hconv2
            go_wp2
            go_ret
            refine ⟨rfl, ?_⟩
            exact HBa.out.trans ((HBb.out.mono hsa).trans ((HBc.out.mono (by omega)).trans ((HBd.out.mono (by omega)).trans ((HBh.out.mono (by omega)).trans (HBi.out.mono (by have := HBh.out.size; omega))))))
      · go_wp2
        go_ret
        exact ⟨rfl, Below.refl _ _⟩
end Go.Proofs.Qxb6600826a
