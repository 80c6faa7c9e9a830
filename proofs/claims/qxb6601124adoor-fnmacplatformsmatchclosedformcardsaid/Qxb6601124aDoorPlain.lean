/-
  WHAT IS OF NO PROGRAM: the plain functions that the walked Go functions compute, and the laws of them.
-/
import Derived.Lib.AtoiAllCases
import Derived.Lib.ItoaNum
import Derived.Lib.IndexMore
import Derived.Lib.IndexBytes
namespace Go.Proofs.Qxb6601124aDoor.Pl
set_option linter.unusedSimpArgs false
set_option linter.unusedVariables false

/-! ### Texts -/

def mk (l : List UInt8) : ByteArray := ⟨l.toArray⟩

theorem mk_bytes (l : List UInt8) : (mk l).data.toList = l := by simp [mk]
theorem mk_of (s : ByteArray) : mk s.data.toList = s := by cases s; simp [mk]
theorem mk_size (l : List UInt8) : (mk l).size = l.length := by simp [mk, ByteArray.size]
theorem eq_of_bytes {s t : ByteArray} (h : s.data.toList = t.data.toList) : s = t := by rw [← mk_of s, h, mk_of]
theorem eq_mk {s : ByteArray} {l : List UInt8} (h : s.data.toList = l) : s = mk l := by rw [← h, mk_of]

/-! ### Before and behind the first dot -/

def cutL : List UInt8 → List UInt8 × List UInt8
  | [] => ([], [])
  | c :: r => if c = 46 then ([], r) else (c :: (cutL r).1, (cutL r).2)

theorem cutL_at : ∀ (l : List UInt8) (k : Nat), k < l.length → (∀ j, j < k → l.getD j 0 ≠ 46) → l.getD k 0 = 46 → cutL l = (l.take k, l.drop (k + 1))
  | [], k, h, _, _ => by simp at h
  | c :: r, 0, _, _, hk => by
    have : c = 46 := by simpa using hk
    simp [cutL, this]
  | c :: r, k + 1, h, hb, hk => by
    have h0 : c ≠ 46 := by simpa using hb 0 (by omega)
    have ih := cutL_at r k (by simpa using h) (fun j hj => by simpa using hb (j + 1) (by omega)) (by simpa using hk)
    simp [cutL, h0, ih]

theorem cutL_none : ∀ (l : List UInt8), (∀ x ∈ l, x ≠ 46) → cutL l = (l, [])
  | [], _ => rfl
  | c :: r, h => by
    have h0 := h c (by simp)
    have ih := cutL_none r (fun x hx => h x (by simp [hx]))
    simp [cutL, h0, ih]

theorem cutL_app : ∀ (a r : List UInt8), (∀ x ∈ a, x ≠ 46) → cutL (a ++ 46 :: r) = (a, r)
  | [], r, _ => by simp [cutL]
  | c :: a, r, h => by
    have h0 := h c (by simp)
    have ih := cutL_app a r (fun x hx => h x (by simp [hx]))
    simp [cutL, h0, ih]

theorem cutL_len : ∀ (l : List UInt8), (cutL l).1.length ≤ l.length ∧ (cutL l).2.length ≤ l.length
  | [] => by simp [cutL]
  | c :: r => by
    have ih := cutL_len r
    by_cases h : c = 46
    · simp [cutL, h]
    · simp [cutL, h]; omega

theorem cutL_rest : ∀ (l : List UInt8), (l.drop (cutL l).1.length = [] ∧ (cutL l).2 = []) ∨ l.drop (cutL l).1.length = 46 :: (cutL l).2
  | [] => by simp [cutL]
  | c :: r => by
    by_cases h : c = 46
    · right; simp [cutL, h]
    · have ih := cutL_rest r
      simpa [cutL, h] using ih

theorem cut_eq (l : List UInt8) : (Lib.cut l [46]).1 = (cutL l).1 ∧ (Lib.cut l [46]).2.1 = (cutL l).2 := by
  have hocc : ∀ j, Lib.occAt l [46] j = true ↔ (j < l.length ∧ l.getD j 0 = 46) := by
    intro j
    unfold Lib.occAt
    by_cases hj : j < l.length
    · rw [List.drop_eq_getElem_cons hj]
      simp only [List.isPrefixOf_cons_cons, List.isPrefixOf_nil_left, Bool.and_true, beq_iff_eq, hj, true_and, List.getD_eq_getElem?_getD, List.getElem?_eq_getElem hj, Option.getD_some]
      exact eq_comm
    · rw [List.drop_eq_nil_of_le (by omega)]
      simp [hj, List.isPrefixOf]
  rcases Lib.index_spec l [46] with ⟨h1, h2⟩ | ⟨i, h1, h2, h3, h4⟩
  · have hn : ∀ x ∈ l, x ≠ 46 := by
      intro x hx e
      obtain ⟨j, hj⟩ := List.getElem?_of_mem hx
      have hjl := (List.getElem?_eq_some_iff.1 hj).1
      have := h2 j (by omega)
      have h5 := (hocc j).2 ⟨hjl, by rw [List.getD_eq_getElem?_getD, hj]; simpa using e⟩
      rw [h5] at this; cases this
    rw [cutL_none l hn]
    simp [Lib.cut, h1]
  · obtain ⟨h5, h6⟩ := (hocc i).1 h3
    rw [cutL_at l i h5 (fun j hj e => by
      have := h4 j hj
      have h7 := (hocc j).2 ⟨by omega, e⟩
      rw [h7] at this; cases this) h6]
    simp [Lib.cut, h1]

/-! ### A small number -/

def digit (c : UInt8) : Bool := decide (48 ≤ c.toNat) && decide (c.toNat ≤ 57)

def smallRun : Nat → Bool → List UInt8 → Nat × Bool × List UInt8
  | v, big, [] => (v, big, [])
  | v, big, c :: r => if digit c = true then (if big = true then smallRun v true r else smallRun (v * 10 + (c.toNat - 48)) (decide (1048576 < v * 10 + (c.toNat - 48))) r) else (v, big, c :: r)

def sgn (l : List UInt8) : Bool := match l with | [] => false | c :: _ => decide (c = 43) || decide (c = 45)
def neg (l : List UInt8) : Bool := match l with | [] => false | c :: _ => decide (c = 45)
def body (l : List UInt8) : List UInt8 := if sgn l = true then l.drop 1 else l

/-- zzAtoiSmall: the value, 'ok', 'big'. -/
def sVal (l : List UInt8) : Int := if neg l = true then -((smallRun 0 false (body l)).1 : Int) else ((smallRun 0 false (body l)).1 : Int)
def sOk (l : List UInt8) : Bool := decide ((smallRun 0 false (body l)).2.2 = []) && decide (body l ≠ [])
def sBig (l : List UInt8) : Bool := (smallRun 0 false (body l)).2.1

theorem smallRun_big : ∀ (l : List UInt8) (v : Nat), (smallRun v true l).2.1 = true
  | [], v => rfl
  | c :: r, v => by
    simp only [smallRun]
    split
    · simpa using smallRun_big r v
    · rfl

theorem smallRun_le : ∀ (l : List UInt8) (v : Nat) (b : Bool), (b = false → v ≤ 1048576) → v ≤ 10485769 → (smallRun v b l).1 ≤ 10485769
  | [], v, b, _, h => h
  | c :: r, v, b, hb, h => by
    simp only [smallRun]
    split
    · rename_i hd
      split
      · exact smallRun_le r v true (fun e => by cases e) h
      · rename_i hb'
        have hv := hb (by simpa using hb')
        simp only [digit, Bool.and_eq_true, decide_eq_true_eq] at hd
        refine smallRun_le r _ _ (fun e => ?_) (by omega)
        have := of_decide_eq_false e
        omega
    · exact h

/-- How the parse of no numeral ends. -/
def noNat : Lib.NumEnd Nat := Lib.parseMag []
def noInt : Lib.NumEnd Int := Lib.atoiAll []

theorem parse_of_small : ∀ (l : List UInt8) (v : Nat), v ≤ 1048576 → (smallRun v false l).2.1 = false →
    Lib.parseUint10 v l = (if (smallRun v false l).2.2 = [] then .ok (smallRun v false l).1 else noNat) ∧ (smallRun v false l).1 ≤ 1048576
  | [], v, hv, _ => by simp [smallRun, Lib.parseUint10, hv]
  | c :: r, v, hv, h => by
    by_cases hd : digit c = true
    · have hd' : 48 ≤ c.toNat ∧ c.toNat ≤ 57 := by simpa [digit] using hd
      have e : smallRun v false (c :: r) = smallRun (v * 10 + (c.toNat - 48)) (decide (1048576 < v * 10 + (c.toNat - 48))) r := by
        simp only [smallRun]; rw [if_pos hd, if_neg (by decide)]
      rw [e] at h ⊢
      by_cases hb : 1048576 < v * 10 + (c.toNat - 48)
      · rw [decide_eq_true hb, smallRun_big] at h; cases h
      · rw [decide_eq_false hb] at h ⊢
        simp only [Lib.parseUint10]
        rw [if_pos hd', if_neg (by omega), if_neg (by omega)]
        exact parse_of_small r _ (by omega) h
    · have e : smallRun v false (c :: r) = (v, false, c :: r) := by
        simp only [smallRun]; rw [if_neg hd]
      rw [e]
      simp only [Lib.parseUint10]
      rw [if_neg (fun hh => hd (by simp [digit, hh.1, hh.2])), if_neg (by simp)]
      exact ⟨rfl, hv⟩

theorem parse_rest : ∀ (l : List UInt8) (v : Nat) (b : Bool) (a u : Nat), Lib.parseUint10 a l = .ok u → (smallRun v b l).2.2 = []
  | [], v, b, a, u, _ => rfl
  | c :: r, v, b, a, u, h => by
    simp only [Lib.parseUint10] at h
    split at h
    · rename_i hd
      split at h
      · cases h
      · split at h
        · cases h
        · simp only [smallRun]
          rw [if_pos (by simp [digit, hd.1, hd.2])]
          split
          · exact parse_rest r _ _ _ u h
          · exact parse_rest r _ _ _ u h
    · cases h

theorem atoi_by_sign (l : List UInt8) : Lib.atoiAll l = (if neg l = true then Lib.signed (Lib.parseMag (body l)) else Lib.signless (Lib.parseMag (body l))) := by
  cases l with
  | nil => simp [neg, body, sgn, Lib.parseMag, Lib.signless, Lib.atoiAll]
  | cons c r =>
    by_cases h43 : c = 43
    · subst h43
      rw [Lib.atoiAll_plus]
      simp [neg, body, sgn]
    · by_cases h45 : c = 45
      · subst h45
        rw [Lib.atoiAll_minus]
        simp [neg, body, sgn]
      · rw [Lib.atoiAll_plain c r (fun e => h43 (UInt8.toNat_inj.1 e)) (fun e => h45 (UInt8.toNat_inj.1 e))]
        simp [neg, body, sgn, h43, h45]

/-- A number within the law's bound: Atoi's own answer. -/
theorem atoi_ok (l : List UInt8) (ho : sOk l = true) (hb : sBig l = false) : Lib.atoiAll l = .ok (sVal l) ∧ -1048576 ≤ sVal l ∧ sVal l ≤ 1048576 := by
  simp only [sOk, Bool.and_eq_true, decide_eq_true_eq] at ho
  obtain ⟨h1, h2⟩ := parse_of_small (body l) 0 (by omega) hb
  rw [if_pos ho.1] at h1
  have hm : Lib.parseMag (body l) = .ok (smallRun 0 false (body l)).1 := by rw [Lib.parseMag, if_neg ho.2, h1]
  rw [atoi_by_sign, hm, sVal]
  by_cases hn : neg l = true
  · rw [if_pos hn, if_pos hn]
    refine ⟨?_, by omega, by omega⟩
    simp only [Lib.signed]
    rw [if_neg (by omega)]
  · rw [if_neg hn, if_neg hn]
    refine ⟨?_, by omega, by omega⟩
    simp only [Lib.signless]
    rw [if_neg (by omega)]

/-- No numeral, and none that overflows ahead of the fault: the one kind of error. -/
theorem atoi_fault (l : List UInt8) (ho : sOk l = false) (hb : sBig l = false) : Lib.atoiAll l = noInt := by
  have hm : Lib.parseMag (body l) = noNat := by
    unfold Lib.parseMag
    split
    · rfl
    · rename_i hne
      obtain ⟨h1, _⟩ := parse_of_small (body l) 0 (by omega) hb
      rw [h1, if_neg]
      intro h
      simp [sOk, h, hne] at ho
  rw [atoi_by_sign, hm]
  split <;> rfl

/-- No numeral: an error, of the one kind or the other. -/
theorem atoi_no (l : List UInt8) (ho : sOk l = false) : Lib.atoiAll l = noInt ∨ Lib.atoiAll l = .range := by
  cases h : Lib.atoiAll l
  · exfalso
    rw [atoi_by_sign] at h
    have hm : ∃ u, Lib.parseMag (body l) = .ok u := by
      cases hp : Lib.parseMag (body l)
      · exact ⟨_, rfl⟩
      · rw [hp] at h; split at h <;> cases h
      · rw [hp] at h; split at h <;> cases h
    obtain ⟨u, hu⟩ := hm
    unfold Lib.parseMag at hu
    split at hu
    · cases hu
    · rename_i hne
      have := parse_rest (body l) 0 false 0 u hu
      simp [sOk, this, hne] at ho
  · exact .inl rfl
  · exact .inr rfl

/-! ### The version -/

def majL (l : List UInt8) : List UInt8 := (cutL l).1
def minL (l : List UInt8) : List UInt8 := (cutL (cutL l).2).1

def pThrough (l : List UInt8) : Bool := if sOk (majL l) = false then true else if sBig (majL l) = true then false else if sVal (majL l) = 10 ∧ sBig (minL l) = true then false else true
def pOk (l : List UInt8) : Bool := sOk (majL l) && pThrough l
def pMaj (l : List UInt8) : Int := if pOk l = true then sVal (majL l) else 0
def pMin (l : List UInt8) : Int := if pOk l = true then (if sOk (minL l) = true then sVal (minL l) else 0) else 0

/-! ### The tags -/

def tX : ByteArray := ⟨#[120, 56, 54, 95, 54, 52]⟩
def tIntel : ByteArray := ⟨#[105, 110, 116, 101, 108]⟩
def tFat64 : ByteArray := ⟨#[102, 97, 116, 54, 52]⟩
def tFat32 : ByteArray := ⟨#[102, 97, 116, 51, 50]⟩
def tU2 : ByteArray := ⟨#[117, 110, 105, 118, 101, 114, 115, 97, 108, 50]⟩
def tU : ByteArray := ⟨#[117, 110, 105, 118, 101, 114, 115, 97, 108]⟩
def tArm : ByteArray := ⟨#[97, 114, 109, 54, 52]⟩

def fmts (a : ByteArray) : List ByteArray := if a = tX then [tX, tIntel, tFat64, tFat32, tU2, tU] else if a = tArm then [tArm, tU2] else [a]
def low (a : ByteArray) : List ByteArray := if a = tX then fmts a else [tU2]

theorem fmts_pos (a : ByteArray) : 1 ≤ (fmts a).length ∧ (fmts a).length ≤ 6 := by unfold fmts; split <;> (try split) <;> simp
theorem low_pos (a : ByteArray) : 1 ≤ (low a).length ∧ (low a).length ≤ 6 := by
  unfold low; split
  · exact fmts_pos a
  · simp

def tag (v : List UInt8) (f : ByteArray) : ByteArray := mk ([109, 97, 99, 111, 115, 120, 95] ++ v ++ [95] ++ f.data.toList)
def ver10 (m : Int) : List UInt8 := [49, 48, 95] ++ Lib.itoa m
def ver11 (m : Int) : List UInt8 := Lib.itoa m ++ [95, 48]
def blk (v : List UInt8) (fs : List ByteArray) : List ByteArray := fs.map (tag v)

def down (f : Int → List ByteArray) (lo : Int) : Nat → List ByteArray
  | 0 => []
  | n + 1 => f (lo + n) ++ down f lo n

theorem down_length (f : Int → List ByteArray) (lo : Int) (k : Nat) (h : ∀ m, (f m).length = k) : ∀ n, (down f lo n).length = n * k
  | 0 => by simp [down]
  | n + 1 => by rw [down, List.length_append, h, down_length f lo k h n, Nat.succ_mul]; omega

theorem down_get (f : Int → List ByteArray) (lo : Int) (k : Nat) (hk : 0 < k) (h : ∀ m, (f m).length = k) : ∀ (n i : Nat), i < n * k →
    (down f lo n).getD i ByteArray.empty = (f (lo + n - 1 - ((i / k : Nat) : Int))).getD (i % k) ByteArray.empty
  | 0, i, hi => by simp at hi
  | n + 1, i, hi => by
    rw [down]
    by_cases hik : i < k
    · rw [List.getD_eq_getElem?_getD, List.getElem?_append_left (by rw [h]; exact hik), Nat.div_eq_of_lt hik, Nat.mod_eq_of_lt hik, ← List.getD_eq_getElem?_getD]
      congr 2
      simp; omega
    · rw [List.getD_eq_getElem?_getD, List.getElem?_append_right (by rw [h]; omega), h, ← List.getD_eq_getElem?_getD]
      have hs : (n + 1) * k = n * k + k := Nat.succ_mul n k
      rw [down_get f lo k hk h n (i - k) (by omega), Nat.mod_eq_sub_mod (show i ≥ k by omega)]
      have e : i / k = (i - k) / k + 1 := by rw [Nat.div_eq_sub_div hk (by omega)]
      rw [e]
      congr 2
      simp; omega

def tags (a : ByteArray) (major minor : Int) : List ByteArray :=
  if major = 10 then down (fun m => blk (ver10 m) (fmts a)) 4 (minor - 3).toNat
  else down (fun m => blk (ver11 m) (fmts a)) 11 (major - 10).toNat ++ down (fun m => blk (ver10 m) (low a)) 4 13

def got (a : ByteArray) (l : List UInt8) : List ByteArray := if pOk l = true then tags a (pMaj l) (pMin l) else []

def count (a : ByteArray) (major : Int) (ok : Bool) (minor : Int) : Nat :=
  if ok = true then (if major = 10 then (minor - 3).toNat * (fmts a).length else (major - 10).toNat * (fmts a).length + 13 * (low a).length) else 0

theorem blk_length (v : List UInt8) (fs : List ByteArray) : (blk v fs).length = fs.length := by simp [blk]

theorem tags_length (a : ByteArray) (major minor : Int) : (tags a major minor).length = count a major true minor := by
  unfold tags count
  rw [if_pos rfl]
  split
  · exact down_length _ _ _ (fun m => blk_length _ _) _
  · rw [List.length_append, down_length _ _ _ (fun m => blk_length _ _), down_length _ _ _ (fun m => blk_length _ _)]

def want (i : Nat) (a : ByteArray) (major minor : Int) : ByteArray :=
  if major = 10 then tag (ver10 (minor - ((i / (fmts a).length : Nat) : Int))) ((fmts a).getD (i % (fmts a).length) ByteArray.empty)
  else if i < (major - 10).toNat * (fmts a).length then tag (ver11 (major - ((i / (fmts a).length : Nat) : Int))) ((fmts a).getD (i % (fmts a).length) ByteArray.empty)
  else tag (ver10 (16 - (((i - (major - 10).toNat * (fmts a).length) / (low a).length : Nat) : Int))) ((low a).getD ((i - (major - 10).toNat * (fmts a).length) % (low a).length) ByteArray.empty)

theorem blk_get (v : List UInt8) (fs : List ByteArray) (j : Nat) (h : j < fs.length) : (blk v fs).getD j ByteArray.empty = tag v (fs.getD j ByteArray.empty) := by
  simp [blk, List.getD_eq_getElem?_getD, h]

theorem tags_get (a : ByteArray) (major minor : Int) (i : Nat) (h : i < count a major true minor) : (tags a major minor).getD i ByteArray.empty = want i a major minor := by
  have hk := (fmts_pos a).1
  have hk2 := (low_pos a).1
  unfold count at h
  rw [if_pos rfl] at h
  unfold tags want
  by_cases h10 : major = 10
  · rw [if_pos h10] at h ⊢
    rw [if_pos h10, down_get _ _ _ hk (fun m => blk_length _ _) _ _ h, blk_get _ _ _ (Nat.mod_lt _ hk)]
    have hpos : 0 < (minor - 3).toNat := by
      rcases Nat.eq_zero_or_pos (minor - 3).toNat with e | e
      · rw [e] at h; simp at h
      · exact e
    congr 2
    omega
  · rw [if_neg h10] at h ⊢
    rw [if_neg h10]
    by_cases hi : i < (major - 10).toNat * (fmts a).length
    · rw [if_pos hi, List.getD_eq_getElem?_getD, List.getElem?_append_left (by rw [down_length _ _ _ (fun m => blk_length _ _)]; exact hi), ← List.getD_eq_getElem?_getD,
        down_get _ _ _ hk (fun m => blk_length _ _) _ _ hi, blk_get _ _ _ (Nat.mod_lt _ hk)]
      have hpos : 0 < (major - 10).toNat := by
        rcases Nat.eq_zero_or_pos (major - 10).toNat with e | e
        · rw [e] at hi; simp at hi
        · exact e
      congr 2
      omega
    · rw [if_neg hi, List.getD_eq_getElem?_getD, List.getElem?_append_right (by rw [down_length _ _ _ (fun m => blk_length _ _)]; omega), down_length _ _ _ (fun m => blk_length _ _), ← List.getD_eq_getElem?_getD,
        down_get _ _ _ hk2 (fun m => blk_length _ _) _ _ (by omega), blk_get _ _ _ (Nat.mod_lt _ hk2)]
      rfl

end Go.Proofs.Qxb6601124aDoor.Pl
