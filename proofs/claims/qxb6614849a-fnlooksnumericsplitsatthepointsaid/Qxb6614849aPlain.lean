/- THE PLAIN LAWS: no Go in sight. Strings as lists of bytes; the number grammar as 'scanNumber' reads it loosely: what is left behind the number, if one stands at the head. -/
namespace Go.Proofs.Qxb6614849a

def dig (c : UInt8) : Bool := decide (48 ≤ (c.toNat : Int) ∧ (c.toNat : Int) ≤ 57)
/-- A sign. -/
def isSgn (c : UInt8) : Bool := c == 43 || c == 45
/-- An exponent's letter. -/
def isExp (c : UInt8) : Bool := c == 101 || c == 69
def rest (l : List UInt8) : List UInt8 := l.dropWhile dig
def startsD : List UInt8 → Bool
  | c :: _ => dig c
  | [] => false
def sgn : List UInt8 → List UInt8
  | c :: r => if isSgn c = true then r else c :: r
  | [] => []
def pt : List UInt8 → Option (List UInt8)
  | c :: r => if c = 46 then (if startsD r = true then some (rest r) else none) else some (c :: r)
  | [] => some []
def ex : List UInt8 → Option (List UInt8)
  | c :: r => if isExp c = true then (if startsD (sgn r) = true then some (rest (sgn r)) else none) else some (c :: r)
  | [] => some []
def scan (l : List UInt8) : Option (List UInt8) := if startsD (sgn l) = true then (pt (rest (sgn l))).bind ex else none
def ln (l : List UInt8) : Bool := scan l == some []
def sd (l : List UInt8) : Bool := startsD (sgn l) && (rest (sgn l)).isEmpty
def hasB (a b : UInt8) (l : List UInt8) : Bool := l.any fun c => c == a || c == b

theorem dig_ne {c : UInt8} {n : Nat} (h : dig c = true) (hn : n < 48 ∨ 57 < n) (e : c.toNat = n) : False := by
  simp [dig] at h; omega
theorem dig_of {c : UInt8} {n : UInt8} (hn : n.toNat < 48 ∨ 57 < n.toNat) (h : dig c = true) : (c == n) = false := by
  rw [beq_eq_false_iff_ne]; rintro rfl; exact dig_ne h hn rfl

theorem rest_append (a b : List UInt8) (x : UInt8) (hx : dig x = false) : rest (a ++ x :: b) = rest a ++ x :: b := by
  induction a with
  | nil => simp [rest, hx]
  | cons c r ih =>
    simp only [rest, List.cons_append, List.dropWhile_cons] at *
    split
    · exact ih
    · rfl
theorem startsD_append (a b : List UInt8) (x : UInt8) (hx : dig x = false) : startsD (a ++ x :: b) = startsD a := by
  cases a with
  | nil => simpa [startsD] using hx
  | cons c r => rfl
theorem sgn_append (a b : List UInt8) (x : UInt8) (hx : isSgn x = false) : sgn (a ++ x :: b) = sgn a ++ x :: b := by
  cases a with
  | nil => simp [sgn, hx]
  | cons c r => simp only [List.cons_append, sgn]; split <;> rfl
theorem pt_append (l b : List UInt8) (x : UInt8) (hx : dig x = false) (h : x ≠ 46) : pt (l ++ x :: b) = (pt l).map (· ++ x :: b) := by
  cases l with
  | nil => simp [pt, h]
  | cons c r =>
    simp only [List.cons_append, pt, startsD_append r b x hx, rest_append r b x hx]
    split
    · split <;> rfl
    · rfl

theorem hasB_rest (a b : UInt8) (ha : dig a = false) (hb : dig b = false) (l : List UInt8) : hasB a b (rest l) = hasB a b l := by
  induction l with
  | nil => rfl
  | cons c r ih =>
    simp only [rest, List.dropWhile_cons] at *
    split
    · rename_i hc
      have h1 : (c == a) = false := by rw [beq_eq_false_iff_ne]; rintro rfl; rw [ha] at hc; cases hc
      have h2 : (c == b) = false := by rw [beq_eq_false_iff_ne]; rintro rfl; rw [hb] at hc; cases hc
      rw [ih]; simp [hasB, h1, h2]
    · rfl
theorem hasB_sgn (a b : UInt8) (ha : isSgn a = false) (hb : isSgn b = false) (l : List UInt8) : hasB a b (sgn l) = hasB a b l := by
  cases l with
  | nil => rfl
  | cons c r =>
    simp only [sgn]
    split
    · rename_i hc
      have h1 : (c == a) = false := by rw [beq_eq_false_iff_ne]; rintro rfl; rw [ha] at hc; cases hc
      have h2 : (c == b) = false := by rw [beq_eq_false_iff_ne]; rintro rfl; rw [hb] at hc; cases hc
      simp [hasB, h1, h2]
    · rfl

theorem hasB_pt_nil {l : List UInt8} (h : pt l = some []) : hasB 101 69 l = false := by
  cases l with
  | nil => rfl
  | cons c r =>
    simp only [pt] at h
    split at h
    · rename_i hc
      subst hc
      split at h
      · have hr : rest r = [] := by simpa using h
        have := hasB_rest 101 69 (by decide) (by decide) r
        rw [hr] at this
        simpa [hasB] using this
      · cases h
    · cases h
theorem hasB_pt_some {l m : List UInt8} (h : pt l = some m) (hm : hasB 101 69 m = true) : hasB 101 69 l = true := by
  cases l with
  | nil => simp [pt] at h; subst h; exact hm
  | cons c r =>
    simp only [pt] at h
    split at h
    · split at h
      · have hr : rest r = m := by simpa using h
        rw [← hr, hasB_rest 101 69 (by decide) (by decide)] at hm
        simp only [hasB, List.any_cons] at hm ⊢
        rw [hm]; simp
      · cases h
    · have : c :: r = m := by simpa using h
      rw [this]; exact hm

/-- NO POINT, NO LETTER BEHIND AN EXPONENT'S HEAD. -/
theorem ex_append_ne (l b : List UInt8) (x : UInt8) (hs : isSgn x = false) (hd : dig x = false) (he : isExp x = false) : ex (l ++ x :: b) ≠ some [] := by
  cases l with
  | nil => simp [ex, he]
  | cons c r =>
    simp only [List.cons_append, ex, sgn_append r b x hs, startsD_append _ b x hd, rest_append _ b x hd]
    split
    · split <;> simp
    · simp
theorem ex_append (l b : List UInt8) (x : UInt8) (hs : isSgn x = false) (hd : dig x = false) (he : isExp x = true) :
    ex (l ++ x :: b) = some [] ↔ l = [] ∧ startsD (sgn b) = true ∧ rest (sgn b) = [] := by
  cases l with
  | nil =>
    simp only [List.nil_append, ex, he, if_true, true_and]
    split
    · rename_i h; simp [h]
    · rename_i h; simp [h]
  | cons c r =>
    simp only [List.cons_append, ex, sgn_append r b x hs, startsD_append _ b x hd, rest_append _ b x hd]
    split
    · split <;> simp
    · simp

theorem ln_iff (l : List UInt8) : ln l = true ↔ startsD (sgn l) = true ∧ ∃ m, pt (rest (sgn l)) = some m ∧ ex m = some [] := by
  unfold ln scan
  by_cases h : startsD (sgn l) = true
  · rw [if_pos h]
    cases hp : pt (rest (sgn l)) with
    | none => simp
    | some m => simp [h]
  · rw [if_neg h]; simp [h]
theorem sd_iff (l : List UInt8) : sd l = true ↔ startsD (sgn l) = true ∧ rest (sgn l) = [] := by simp [sd]

/-- ANY SIGNED RUN OF DIGITS LOOKS NUMERIC. -/
theorem ln_of_sd {l : List UInt8} (h : sd l = true) : ln l = true := by
  obtain ⟨h1, h2⟩ := (sd_iff l).1 h
  exact (ln_iff l).2 ⟨h1, [], by rw [h2]; rfl, rfl⟩

theorem ln_noexp (a : List UInt8) : (ln a = true ∧ hasB 101 69 a = false) ↔ (startsD (sgn a) = true ∧ pt (rest (sgn a)) = some []) := by
  have hb : hasB 101 69 (rest (sgn a)) = hasB 101 69 a := by rw [hasB_rest _ _ (by decide) (by decide), hasB_sgn _ _ (by decide) (by decide)]
  constructor
  · rintro ⟨h1, h2⟩
    obtain ⟨h3, m, h4, h5⟩ := (ln_iff a).1 h1
    refine ⟨h3, ?_⟩
    cases m with
    | nil => exact h4
    | cons c r =>
      exfalso
      simp only [ex] at h5
      split at h5
      · rename_i hc
        have : hasB 101 69 (c :: r) = true := by
          simp only [isExp] at hc
          simp [hasB, hc]
        have := hasB_pt_some h4 this
        rw [hb, h2] at this; cases this
      · cases h5
  · rintro ⟨h1, h2⟩
    exact ⟨(ln_iff a).2 ⟨h1, [], h2, rfl⟩, by rw [← hb]; exact hasB_pt_nil h2⟩

/-- THE LAW AT THE EXPONENT. -/
theorem split_exp (a b : List UInt8) (x : UInt8) (hs : isSgn x = false) (hd : dig x = false) (he : isExp x = true) (hp : x ≠ 46) :
    ln (a ++ x :: b) = (ln a && !hasB 101 69 a && sd b) := by
  rw [Bool.eq_iff_iff, ln_iff, sgn_append a b x hs, startsD_append _ b x hd, rest_append _ b x hd, pt_append _ b x hd hp]
  have e := ln_noexp a
  simp only [Bool.and_eq_true, Bool.not_eq_true']
  rw [e, sd_iff]
  constructor
  · rintro ⟨h1, m, h2, h3⟩
    cases hq : pt (rest (sgn a)) with
    | none => rw [hq] at h2; cases h2
    | some q =>
      rw [hq] at h2
      have hm : q ++ x :: b = m := by simpa using h2
      rw [← hm, ex_append q b x hs hd he] at h3
      obtain ⟨rfl, h4, h5⟩ := h3
      exact ⟨⟨h1, rfl⟩, h4, h5⟩
  · rintro ⟨⟨h1, h2⟩, h3, h4⟩
    refine ⟨h1, x :: b, by rw [h2]; rfl, ?_⟩
    exact (ex_append [] b x hs hd he).2 ⟨rfl, h3, h4⟩

theorem hasDot_ex {l : List UInt8} (h : ex l = some []) : hasB 46 46 l = false := by
  cases l with
  | nil => rfl
  | cons c r =>
    simp only [ex] at h
    split at h
    · rename_i hc
      split at h
      · have hr : rest (sgn r) = [] := by simpa using h
        have h1 := hasB_rest 46 46 (by decide) (by decide) (sgn r)
        rw [hr, hasB_sgn 46 46 (by decide) (by decide)] at h1
        have h2 : (c == 46) = false := by rw [beq_eq_false_iff_ne]; rintro rfl; exact absurd hc (by decide)
        simp only [hasB, List.any_cons, List.any_nil] at h1 ⊢
        rw [← h1, h2]; rfl
      · cases h
    · cases h
theorem pt_nodot {l : List UInt8} (h : hasB 46 46 l = false) : pt l = some l := by
  cases l with
  | nil => rfl
  | cons c r =>
    have hc : c ≠ 46 := by
      rintro rfl
      simp [hasB] at h
    simp [pt, hc]
theorem sgn_of_startsD {l : List UInt8} (h : startsD l = true) : sgn l = l := by
  cases l with
  | nil => rfl
  | cons c r =>
    have hc : isSgn c = false := by
      have h1 : dig c = true := h
      simp [isSgn, dig_of (n := 43) (by decide) h1, dig_of (n := 45) (by decide) h1]
    simp [sgn, hc]

/-- THE LAW AT THE POINT. -/
theorem split_pt (p q : List UInt8) : ln (p ++ 46 :: q) = (sd p && startsD q && !hasB 46 46 q && ln q) := by
  have hs : isSgn 46 = false := by decide
  have hd : dig 46 = false := by decide
  have he : isExp 46 = false := by decide
  rw [Bool.eq_iff_iff, ln_iff, sgn_append p q 46 hs, startsD_append _ q 46 hd, rest_append _ q 46 hd]
  simp only [Bool.and_eq_true, Bool.not_eq_true']
  rw [sd_iff]
  constructor
  · rintro ⟨h1, m, h2, h3⟩
    cases hr : rest (sgn p) with
    | nil =>
      rw [hr] at h2
      simp only [List.nil_append, pt, if_true] at h2
      split at h2
      · rename_i hq
        have hm : rest q = m := by simpa using h2
        subst hm
        have hdot : hasB 46 46 q = false := by
          have := hasDot_ex h3
          rwa [hasB_rest 46 46 (by decide) (by decide)] at this
        refine ⟨⟨⟨⟨h1, rfl⟩, hq⟩, hdot⟩, (ln_iff q).2 ?_⟩
        rw [sgn_of_startsD hq]
        refine ⟨hq, rest q, pt_nodot ?_, h3⟩
        rw [hasB_rest 46 46 (by decide) (by decide)]; exact hdot
      · cases h2
    | cons c r =>
      exfalso
      rw [hr] at h2
      simp only [List.cons_append, pt, startsD_append r q 46 hd, rest_append r q 46 hd] at h2
      split at h2
      · split at h2
        · have hm : rest r ++ 46 :: q = m := by simpa using h2
          rw [← hm] at h3
          exact ex_append_ne _ q 46 hs hd he h3
        · cases h2
      · have hm : c :: (r ++ 46 :: q) = m := by simpa using h2
        rw [← hm] at h3
        exact ex_append_ne (c :: r) q 46 hs hd he h3
  · rintro ⟨⟨⟨⟨h1, h2⟩, hq⟩, hdot⟩, hln⟩
    refine ⟨h1, rest q, by rw [h2]; simp [pt, hq], ?_⟩
    obtain ⟨_, m, h3, h4⟩ := (ln_iff q).1 hln
    rw [sgn_of_startsD hq, pt_nodot (by rw [hasB_rest 46 46 (by decide) (by decide)]; exact hdot)] at h3
    have : rest q = m := by simpa using h3
    rw [this]; exact h4

end Go.Proofs.Qxb6614849a
