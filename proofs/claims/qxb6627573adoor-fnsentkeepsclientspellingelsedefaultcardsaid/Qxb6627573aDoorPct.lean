/-
  PLAIN LAW: percent-decoding and the default spelling of a path, over lists of bytes. No Go in sight.
-/
namespace Go.Proofs.Qxb6627573aDoor.Pct

def isHexN (n : Nat) : Bool := (decide (48 ≤ n) && decide (n ≤ 57)) || (decide (97 ≤ n) && decide (n ≤ 102)) || (decide (65 ≤ n) && decide (n ≤ 70))
def upHexN (n : Nat) : Bool := (decide (48 ≤ n) && decide (n ≤ 57)) || (decide (65 ≤ n) && decide (n ≤ 70))
def hvN (n : Nat) : Nat := if 48 ≤ n ∧ n ≤ 57 then n - 48 else if 97 ≤ n ∧ n ≤ 102 then n - 87 else if 65 ≤ n ∧ n ≤ 70 then n - 55 else 0
def keptN (n : Nat) : Bool := (decide (97 ≤ n) && decide (n ≤ 122)) || (decide (65 ≤ n) && decide (n ≤ 90)) || (decide (48 ≤ n) && decide (n ≤ 57)) || [45, 95, 46, 126, 36, 38, 43, 44, 47, 58, 59, 61, 64].contains n
/-- The byte that two hex digits stand for. -/
def pr (h l : UInt8) : UInt8 := UInt8.ofNat (hvN h.toNat * 16 + hvN l.toNat)
def hexDigit (n : Nat) : UInt8 := if n < 10 then UInt8.ofNat (48 + n) else UInt8.ofNat (55 + n)

theorem hvN_lt (n : Nat) : hvN n < 16 := by
  unfold hvN; split
  · omega
  · split
    · omega
    · split <;> omega
theorem pr_toNat (h l : UInt8) : (pr h l).toNat = hvN h.toNat * 16 + hvN l.toNat := by
  have := hvN_lt h.toNat
  have := hvN_lt l.toNat
  unfold pr
  rw [UInt8.toNat_ofNat']
  exact Nat.mod_eq_of_lt (by omega)

/-- PERCENT-DECODING: every '%' must be followed by two hex digits. -/
def dec : List UInt8 → Option (List UInt8)
  | [] => some []
  | c :: t =>
    if c = 37 then
      match t with
      | h :: l :: r => if isHexN h.toNat && isHexN l.toNat then (dec r).map (pr h l :: ·) else none
      | _ => none
    else (dec t).map (c :: ·)

/-- THE DEFAULT SPELLING. -/
def esc : List UInt8 → List UInt8
  | [] => []
  | c :: t => (if keptN c.toNat then [c] else [37, hexDigit (c.toNat / 16), hexDigit (c.toNat % 16)]) ++ esc t

/-- Literal bytes are kept ones; escapes are upper-case and of bytes that are not kept. -/
def okSp : List UInt8 → Bool
  | [] => true
  | c :: t =>
    if c = 37 then
      match t with
      | h :: l :: r => upHexN h.toNat && upHexN l.toNat && !keptN (pr h l).toNat && okSp r
      | _ => false
    else keptN c.toNat && okSp t

theorem dec_nil : dec [] = some [] := rfl
theorem dec_plain (c : UInt8) (t : List UInt8) (h : c ≠ 37) : dec (c :: t) = (dec t).map (c :: ·) := by
  rw [dec.eq_def]; simp only [if_neg h]
theorem okSp_plain (c : UInt8) (t : List UInt8) (h : c ≠ 37) : okSp (c :: t) = (keptN c.toNat && okSp t) := by
  rw [okSp.eq_def]; simp only [if_neg h]
theorem okSp_pct (h l : UInt8) (r : List UInt8) : okSp (37 :: h :: l :: r) = (upHexN h.toNat && upHexN l.toNat && !keptN (pr h l).toNat && okSp r) := by
  rw [okSp.eq_def]; simp only [if_true]
theorem dec_pct (h l : UInt8) (r : List UInt8) (e : (isHexN h.toNat && isHexN l.toNat) = true) : dec (37 :: h :: l :: r) = (dec r).map (pr h l :: ·) := by
  rw [dec]; simp only [if_true, e]
theorem dec_bad (h l : UInt8) (r : List UInt8) (e : (isHexN h.toNat && isHexN l.toNat) = false) : dec (37 :: h :: l :: r) = none := by
  rw [dec]; simp [e]
theorem dec_short0 : dec [37] = none := rfl
theorem dec_short1 (c : UInt8) : dec [37, c] = none := rfl

/-! ### Of each byte -/
theorem byte_all {p : Nat → Bool} (h : (List.range 256).all p = true) (c : UInt8) : p c.toNat = true := by
  exact List.all_eq_true.1 h c.toNat (List.mem_range.2 (by have := c.toNat_lt; omega))
theorem kept_ne (c : UInt8) (h : keptN c.toNat = true) : c ≠ 37 := by
  intro e; subst e; revert h; decide
theorem hexDigit_toNat (n : Nat) (h : n < 16) : (hexDigit n).toNat = if n < 10 then 48 + n else 55 + n := by
  unfold hexDigit
  split
  · rw [UInt8.toNat_ofNat']; exact Nat.mod_eq_of_lt (by omega)
  · rw [UInt8.toNat_ofNat']; exact Nat.mod_eq_of_lt (by omega)
theorem hexDigit_up (n : Nat) (h : n < 16) : upHexN (hexDigit n).toNat = true := by
  rw [hexDigit_toNat n h]; unfold upHexN
  split
  · have h1 : 48 ≤ 48 + n := by omega
    have h2 : 48 + n ≤ 57 := by omega
    simp [h2]
  · have h1 : 65 ≤ 55 + n := by omega
    have h2 : 55 + n ≤ 70 := by omega
    simp [h1, h2]
theorem isHex_of_up {n : Nat} (h : upHexN n = true) : isHexN n = true := by
  unfold upHexN at h; unfold isHexN
  simp only [Bool.or_eq_true, Bool.and_eq_true, decide_eq_true_eq] at h ⊢
  omega
theorem hvN_hexDigit (n : Nat) (h : n < 16) : hvN (hexDigit n).toNat = n := by
  rw [hexDigit_toNat n h]; unfold hvN
  split
  · rw [if_pos (by omega)]; omega
  · rw [if_neg (by omega), if_neg (by omega), if_pos (by omega)]; omega
theorem pr_hexDigit (c : UInt8) : pr (hexDigit (c.toNat / 16)) (hexDigit (c.toNat % 16)) = c := by
  have hc := c.toNat_lt
  apply UInt8.toNat_inj.1
  rw [pr_toNat, hvN_hexDigit _ (by omega), hvN_hexDigit _ (by omega)]
  omega

theorem dec_esc (l : List UInt8) : dec (esc l) = some l := by
  induction l with
  | nil => rfl
  | cons c t ih =>
    have hc := c.toNat_lt
    rw [esc]
    by_cases hk : keptN c.toNat = true
    · rw [if_pos hk, List.singleton_append, dec_plain _ _ (kept_ne c hk), ih]; rfl
    · rw [if_neg hk]
      show dec (37 :: hexDigit (c.toNat / 16) :: hexDigit (c.toNat % 16) :: esc t) = _
      rw [dec_pct _ _ _ (by rw [isHex_of_up (hexDigit_up _ (by omega)), isHex_of_up (hexDigit_up _ (by omega))]; rfl), ih, pr_hexDigit]; rfl
theorem okSp_esc (l : List UInt8) : okSp (esc l) = true := by
  induction l with
  | nil => rfl
  | cons c t ih =>
    have hc := c.toNat_lt
    rw [esc]
    by_cases hk : keptN c.toNat = true
    · rw [if_pos hk, List.singleton_append, okSp_plain _ _ (kept_ne c hk), hk, ih]; rfl
    · rw [if_neg hk]
      show okSp (37 :: hexDigit (c.toNat / 16) :: hexDigit (c.toNat % 16) :: esc t) = _
      rw [okSp_pct, hexDigit_up _ (by omega), hexDigit_up _ (by omega), pr_hexDigit, ih]
      simp [hk]

/-! ### A loop that decodes: 'acc' is what the bytes before 'i' gave -/
def Inv (l : List UInt8) (i : Nat) (acc : List UInt8) : Prop := dec l = (dec (l.drop i)).map (acc ++ ·)
theorem Inv.start (l : List UInt8) : Inv l 0 [] := by
  unfold Inv; rw [List.drop_zero]
  cases dec l <;> simp
theorem Inv.done {l acc : List UInt8} {i : Nat} (h : Inv l i acc) (hi : l.length ≤ i) : dec l = some acc := by
  unfold Inv at h
  rw [h, List.drop_eq_nil_of_le hi, dec_nil]; simp
theorem Inv.step1 {l acc : List UInt8} {i : Nat} (h : Inv l i acc) (hi : i < l.length) {c : UInt8} (hc : l[i] = c) (hn : c ≠ 37) : Inv l (i + 1) (acc ++ [c]) := by
  unfold Inv at h ⊢
  rw [h, List.drop_eq_getElem_cons hi, hc, dec_plain _ _ hn]
  cases dec (l.drop (i + 1)) <;> simp
theorem Inv.step3 {l acc : List UInt8} {i : Nat} (h : Inv l i acc) (hi : i + 2 < l.length) (hc : l[i] = 37) {a b : UInt8} (ha : l[i + 1] = a) (hb : l[i + 2] = b) (hh : (isHexN a.toNat && isHexN b.toNat) = true) : Inv l (i + 3) (acc ++ [pr a b]) := by
  unfold Inv at h ⊢
  rw [h, List.drop_eq_getElem_cons (by omega), List.drop_eq_getElem_cons (i := i + 1) (by omega), List.drop_eq_getElem_cons (i := i + 1 + 1) (by omega), hc, ha, show l[i + 1 + 1] = b from hb, dec_pct _ _ _ hh]
  cases dec (l.drop (i + 3)) <;> simp
theorem Inv.bad {l acc : List UInt8} {i : Nat} (h : Inv l i acc) (hi : i + 2 < l.length) (hc : l[i] = 37) {a b : UInt8} (ha : l[i + 1] = a) (hb : l[i + 2] = b) (hh : (isHexN a.toNat && isHexN b.toNat) = false) : dec l = none := by
  unfold Inv at h
  rw [h, List.drop_eq_getElem_cons (by omega), List.drop_eq_getElem_cons (i := i + 1) (by omega), List.drop_eq_getElem_cons (i := i + 1 + 1) (by omega), hc, ha, show l[i + 1 + 1] = b from hb, dec_bad _ _ _ hh]
  rfl
theorem Inv.short {l acc : List UInt8} {i : Nat} (h : Inv l i acc) (hi : i < l.length) (h2 : l.length ≤ i + 2) (hc : l[i] = 37) : dec l = none := by
  unfold Inv at h
  rw [h, List.drop_eq_getElem_cons hi, hc]
  by_cases h1 : i + 1 < l.length
  · rw [List.drop_eq_getElem_cons h1, List.drop_eq_nil_of_le (i := i + 1 + 1) (by omega), dec_short1]; rfl
  · rw [List.drop_eq_nil_of_le (i := i + 1) (by omega), dec_short0]; rfl

/-! ### What Sent hands back -/
def sent (path raw : List UInt8) : List UInt8 := if raw ≠ [] ∧ dec raw = some path then raw else if path = [42] then [42] else esc path
theorem dec_star : dec [42] = some [42] := rfl
theorem dec_sent (path raw : List UInt8) : dec (sent path raw) = some path := by
  unfold sent
  split
  · rename_i h; exact h.2
  · split
    · rename_i h; rw [h]; rfl
    · exact dec_esc path
theorem sent_fixed (path raw : List UInt8) : sent path (sent path raw) = sent path raw := by
  have h := dec_sent path raw
  generalize sent path raw = s at h
  by_cases hs : s = []
  · subst hs
    have : path = [] := by simpa [dec_nil] using h.symm
    subst this
    rfl
  · unfold sent; rw [if_pos ⟨hs, h⟩]
end Go.Proofs.Qxb6627573aDoor.Pct
