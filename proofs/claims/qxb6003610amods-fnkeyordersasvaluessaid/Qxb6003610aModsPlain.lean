/-
  THE PLAIN LAWS of the reader of numbers: lists of bytes and integers alone; no Go.
-/
namespace Go.Proofs.Qxb6003610aMods.Num

/-- The k-th byte, as a number. -/
def cd (l : List UInt8) (k : Nat) : Nat := (l.getD k 0).toNat

def isD (c : UInt8) : Bool := decide (48 ≤ c.toNat) && decide (c.toNat ≤ 57)
def isZ (c : UInt8) : Bool := c.toNat == 48

/-- How many bytes the sign takes. -/
def sg : List UInt8 → Nat
  | c :: _ => if c.toNat = 43 ∨ c.toNat = 45 then 1 else 0
  | [] => 0
/-- Is the sign a minus? -/
def ng : List UInt8 → Bool
  | c :: _ => c.toNat == 45
  | [] => false
def dot : List UInt8 → Bool
  | c :: _ => c.toNat == 46
  | [] => false
def isE : List UInt8 → Bool
  | c :: _ => c.toNat == 101 || c.toNat == 69
  | [] => false

def ip (l : List UInt8) : List UInt8 := (l.drop (sg l)).takeWhile isD
def r1 (l : List UInt8) : List UInt8 := (l.drop (sg l)).dropWhile isD
def fp (l : List UInt8) : List UInt8 := if dot (r1 l) then ((r1 l).drop 1).takeWhile isD else []
def r3 (l : List UInt8) : List UInt8 := if dot (r1 l) then ((r1 l).drop 1).dropWhile isD else r1 l
/-- All digits of the mantissa. -/
def al (l : List UInt8) : List UInt8 := ip l ++ fp l

def stepE (e : Int) (c : UInt8) : Int := if e < 100000000 then e * 10 + ((c.toNat : Int) - 48) else e
def expo (l : List UInt8) : Int := l.foldl stepE 0

/-- What stands behind the exponent's letter and sign. -/
def exd (r : List UInt8) : List UInt8 := (r.drop 1).drop (sg (r.drop 1))
def ex (r : List UInt8) : Option Int :=
  if isE r = true then
    if exd r ≠ [] ∧ (exd r).all isD = true then some (if ng (r.drop 1) = true then -(expo (exd r)) else expo (exd r)) else none
  else if r = [] then some 0 else none

/-- k: the first digit that is no zero; m: the last one. -/
def Mark (a : List UInt8) (k m : Nat) : Prop :=
  k ≤ m ∧ m < a.length ∧ cd a k ≠ 48 ∧ cd a m ≠ 48 ∧ (∀ x, x < k → cd a x = 48) ∧ ∀ x, m < x → x < a.length → cd a x = 48

def val (l : List UInt8) : Option Int := if al l = [] then none else ex (r3 l)

/-- What a reader of l answers. -/
def Says (l : List UInt8) (neg : Bool) (ds : List UInt8) (e : Int) (ok : Bool) : Prop :=
  (val l = none ∧ neg = false ∧ ds = [] ∧ e = 0 ∧ ok = false) ∨
  (∃ x, val l = some x ∧ ok = true ∧ (∀ j, j < (al l).length → cd (al l) j = 48) ∧ neg = false ∧ ds = [] ∧ e = 0) ∨
  (∃ x k m, val l = some x ∧ ok = true ∧ Mark (al l) k m ∧ neg = ng l ∧ ds = ((al l).drop k).take (m + 1 - k) ∧ e = x + (ip l).length - k - 1)

theorem Mark.one {a : List UInt8} {k m k' m' : Nat} (h : Mark a k m) (h' : Mark a k' m') : k = k' ∧ m = m' := by
  obtain ⟨h1, h2, h3, h4, h5, h6⟩ := h
  obtain ⟨g1, g2, g3, g4, g5, g6⟩ := h'
  constructor
  · rcases Nat.lt_trichotomy k k' with c | c | c
    · exact absurd (g5 k c) h3
    · exact c
    · exact absurd (h5 k' c) g3
  · rcases Nat.lt_trichotomy m m' with c | c | c
    · exact absurd (h6 m' c g2) g4
    · exact c
    · exact absurd (g6 m c h2) h4

theorem Says.one {l : List UInt8} {n n' : Bool} {d d' : List UInt8} {e e' : Int} {o o' : Bool} (h : Says l n d e o) (h' : Says l n' d' e' o') :
    n = n' ∧ d = d' ∧ e = e' ∧ o = o' := by
  rcases h with ⟨a, b, c, f, g⟩ | ⟨x, a, b, c, f, g, i⟩ | ⟨x, k, m, a, b, c, f, g, i⟩ <;>
  rcases h' with ⟨a', b', c', f', g'⟩ | ⟨x', a', b', c', f', g', i'⟩ | ⟨x', k', m', a', b', c', f', g', i'⟩
  · subst b c f g b' c' f' g'; exact ⟨rfl, rfl, rfl, rfl⟩
  · rw [a] at a'; cases a'
  · rw [a] at a'; cases a'
  · rw [a] at a'; cases a'
  · subst b f g i b' f' g' i'; exact ⟨rfl, rfl, rfl, rfl⟩
  · exact absurd (c k' (by have := c'.1; have := c'.2.1; omega)) c'.2.2.1
  · rw [a] at a'; cases a'
  · exact absurd (c' k (by have := c.1; have := c.2.1; omega)) c.2.2.1
  · rw [a] at a'; cases a'
    obtain ⟨rfl, rfl⟩ := c.one c'
    subst b f g i b' f' g' i'; exact ⟨rfl, rfl, rfl, rfl⟩

/-! ### runs of bytes -/
theorem take_tw (p : UInt8 → Bool) (l : List UInt8) : l.take (l.takeWhile p).length = l.takeWhile p := by
  induction l with
  | nil => rfl
  | cons c t ih => by_cases h : p c = true <;> simp [h, ih]
theorem drop_tw (p : UInt8 → Bool) (l : List UInt8) : l.drop (l.takeWhile p).length = l.dropWhile p := by
  induction l with
  | nil => rfl
  | cons c t ih => by_cases h : p c = true <;> simp [h, ih]
theorem tw_le (p : UInt8 → Bool) (l : List UInt8) : (l.takeWhile p).length ≤ l.length := by
  induction l with
  | nil => simp
  | cons c t ih => by_cases h : p c = true <;> simp [h, ih]
theorem tw_lt0 (p : UInt8 → Bool) (l : List UInt8) (j : Nat) (h : j < (l.takeWhile p).length) : p (l.getD j 0) = true := by
  induction l generalizing j with
  | nil => simp at h
  | cons c t ih =>
    by_cases hc : p c = true
    · simp [hc] at h
      cases j with
      | zero => simpa using hc
      | succ j => simpa using ih j (by omega)
    · simp [hc] at h
theorem tw_end0 (p : UInt8 → Bool) (l : List UInt8) (h : (l.takeWhile p).length < l.length) : p (l.getD (l.takeWhile p).length 0) = false := by
  induction l with
  | nil => simp at h
  | cons c t ih =>
    by_cases hc : p c = true
    · simp [hc] at h ⊢
      simpa using ih h
    · simp [hc]
theorem getD_drop (l : List UInt8) (a j : Nat) : (l.drop a).getD j 0 = l.getD (a + j) 0 := by
  simp [List.getD_eq_getElem?_getD]

theorem tw_lt (p : UInt8 → Bool) (l : List UInt8) (a j : Nat) (h : j < ((l.drop a).takeWhile p).length) : a + j < l.length ∧ p (l.getD (a + j) 0) = true := by
  have h1 := tw_le p (l.drop a)
  have h2 := tw_lt0 p (l.drop a) j h
  rw [getD_drop] at h2
  simp at h1
  exact ⟨by omega, h2⟩
theorem tw_end (p : UInt8 → Bool) (l : List UInt8) (a : Nat) (h : a + ((l.drop a).takeWhile p).length < l.length) : p (l.getD (a + ((l.drop a).takeWhile p).length) 0) = false := by
  have h2 := tw_end0 p (l.drop a) (by simp; omega)
  rwa [getD_drop] at h2
theorem tw_add (p : UInt8 → Bool) (l : List UInt8) (a : Nat) (h : a ≤ l.length) : a + ((l.drop a).takeWhile p).length ≤ l.length := by
  have h1 := tw_le p (l.drop a)
  simp at h1
  omega

theorem drop_cons_getD (l : List UInt8) (a : Nat) (h : a < l.length) : l.drop a = l.getD a 0 :: l.drop (a + 1) := by
  rw [List.drop_eq_getElem_cons h]
  simp [List.getD_eq_getElem?_getD, h]

theorem isD_iff (c : UInt8) : isD c = true ↔ 48 ≤ c.toNat ∧ c.toNat ≤ 57 := by simp [isD]
theorem isD_no (c : UInt8) : isD c = false ↔ c.toNat < 48 ∨ 57 < c.toNat := by
  simp [isD]; omega

/-! ### the sign -/
theorem sg_le (l : List UInt8) : sg l ≤ 1 := by
  cases l with
  | nil => simp [sg]
  | cons c t => simp only [sg]; split <;> omega
theorem sg_len (l : List UInt8) : sg l ≤ l.length := by
  cases l with
  | nil => simp [sg]
  | cons c t => simp only [sg]; split <;> simp
/-- At place a: what the sign is. -/
theorem sg_at (l : List UInt8) (a : Nat) (h : a < l.length) : sg (l.drop a) = if cd l a = 43 ∨ cd l a = 45 then 1 else 0 := by
  rw [drop_cons_getD l a h]; rfl
theorem ng_at (l : List UInt8) (a : Nat) (h : a < l.length) : ng (l.drop a) = (cd l a == 45) := by
  rw [drop_cons_getD l a h]; rfl
theorem dot_at (l : List UInt8) (a : Nat) (h : a < l.length) : dot (l.drop a) = (cd l a == 46) := by
  rw [drop_cons_getD l a h]; rfl
theorem isE_at (l : List UInt8) (a : Nat) (h : a < l.length) : isE (l.drop a) = (cd l a == 101 || cd l a == 69) := by
  rw [drop_cons_getD l a h]; rfl
theorem sg_out (l : List UInt8) (a : Nat) (h : l.length ≤ a) : sg (l.drop a) = 0 := by
  rw [List.drop_of_length_le h]; rfl
theorem ng_out (l : List UInt8) (a : Nat) (h : l.length ≤ a) : ng (l.drop a) = false := by
  rw [List.drop_of_length_le h]; rfl
theorem dot_out (l : List UInt8) (a : Nat) (h : l.length ≤ a) : dot (l.drop a) = false := by
  rw [List.drop_of_length_le h]; rfl
theorem isE_out (l : List UInt8) (a : Nat) (h : l.length ≤ a) : isE (l.drop a) = false := by
  rw [List.drop_of_length_le h]; rfl

/-! ### the exponent's number -/
theorem stepE_bd (e : Int) (c : UInt8) (h0 : 0 ≤ e) (h1 : e ≤ 1000000000) (hc : isD c = true) : 0 ≤ stepE e c ∧ stepE e c ≤ 1000000000 := by
  rw [isD_iff] at hc
  unfold stepE; split <;> omega
theorem foldl_bd (l : List UInt8) (e : Int) (h0 : 0 ≤ e) (h1 : e ≤ 1000000000) (h : l.all isD = true) : 0 ≤ l.foldl stepE e ∧ l.foldl stepE e ≤ 1000000000 := by
  induction l generalizing e with
  | nil => exact ⟨h0, h1⟩
  | cons c t ih =>
    simp at h
    have hs := stepE_bd e c h0 h1 h.1
    exact ih _ hs.1 hs.2 (by simpa using h.2)
theorem expo_bd (l : List UInt8) (h : l.all isD = true) : 0 ≤ expo l ∧ expo l ≤ 1000000000 :=
  foldl_bd l 0 (by decide) (by decide) h
theorem expo_snoc (l : List UInt8) (c : UInt8) : expo (l ++ [c]) = stepE (expo l) c := by simp [expo]

/-! ### places in the text -/
def i1 (l : List UInt8) : Nat := sg l
def i2 (l : List UInt8) : Nat := sg l + (ip l).length
def i3 (l : List UInt8) : Nat := if dot (r1 l) = true then i2 l + 1 + (fp l).length else i2 l
/-- Where the exponent's digits begin, if there is an exponent. -/
def i4 (l : List UInt8) : Nat := i3 l + 1 + sg (l.drop (i3 l + 1))
def i5 (l : List UInt8) : Nat := i4 l + ((l.drop (i4 l)).takeWhile isD).length

theorem i1_le (l : List UInt8) : i1 l ≤ l.length := sg_len l
theorem i12 (l : List UInt8) : i1 l ≤ i2 l := by unfold i1 i2; omega
theorem i2_le (l : List UInt8) : i2 l ≤ l.length := tw_add isD l (sg l) (sg_len l)
theorem r1_drop (l : List UInt8) : l.drop (i2 l) = r1 l := by
  unfold i2 ip r1
  rw [← List.drop_drop, drop_tw]
theorem i2_dot (l : List UInt8) (h : dot (r1 l) = true) : i2 l < l.length := by
  rcases Nat.lt_or_ge (i2 l) l.length with c | c
  · exact c
  · rw [← r1_drop, dot_out l _ c] at h; cases h
theorem fp_dot (l : List UInt8) (h : dot (r1 l) = true) : fp l = (l.drop (i2 l + 1)).takeWhile isD := by
  unfold fp; rw [if_pos h, ← r1_drop, List.drop_drop]
theorem fp_no (l : List UInt8) (h : dot (r1 l) = false) : fp l = [] := by
  unfold fp; rw [if_neg (by rw [h]; simp)]
theorem i3_dot (l : List UInt8) (h : dot (r1 l) = true) : i3 l = i2 l + 1 + (fp l).length := by unfold i3; rw [if_pos h]
theorem i3_no (l : List UInt8) (h : dot (r1 l) = false) : i3 l = i2 l := by unfold i3; rw [if_neg (by rw [h]; simp)]
theorem i3_le (l : List UInt8) : i3 l ≤ l.length := by
  cases h : dot (r1 l)
  · rw [i3_no l h]; exact i2_le l
  · rw [i3_dot l h, fp_dot l h]; exact tw_add isD l _ (i2_dot l h)
theorem i23 (l : List UInt8) : i2 l ≤ i3 l := by unfold i3; split <;> omega
theorem r3_drop (l : List UInt8) : l.drop (i3 l) = r3 l := by
  cases h : dot (r1 l)
  · rw [i3_no l h, r1_drop]; unfold r3; rw [if_neg (by rw [h]; simp)]
  · rw [i3_dot l h, fp_dot l h, ← List.drop_drop, drop_tw]; unfold r3; rw [if_pos h, ← r1_drop, List.drop_drop]
theorem exd_drop (l : List UInt8) : exd (r3 l) = l.drop (i4 l) := by
  unfold exd i4; rw [← r3_drop]; simp only [List.drop_drop, Nat.add_assoc]
theorem ng3_drop (l : List UInt8) : ng ((r3 l).drop 1) = ng (l.drop (i3 l + 1)) := by
  rw [← r3_drop, List.drop_drop]
theorem i3_E (l : List UInt8) (h : isE (r3 l) = true) : i3 l < l.length := by
  rcases Nat.lt_or_ge (i3 l) l.length with c | c
  · exact c
  · rw [← r3_drop, isE_out l _ c] at h; cases h
theorem i4_le (l : List UInt8) (h : isE (r3 l) = true) : i4 l ≤ l.length := by
  have h1 := i3_E l h
  have h2 := sg_len (l.drop (i3 l + 1))
  simp at h2
  unfold i4; omega
theorem i5_le (l : List UInt8) (h : isE (r3 l) = true) : i5 l ≤ l.length := tw_add isD l _ (i4_le l h)
theorem i45 (l : List UInt8) : i4 l ≤ i5 l := by unfold i5; omega
theorem int_dig (l : List UInt8) (k : Nat) (h1 : i1 l ≤ k) (h2 : k < i2 l) : k < l.length ∧ isD (l.getD k 0) = true := by
  have h := tw_lt isD l (sg l) (k - sg l) (by unfold i1 i2 ip at *; omega)
  rw [show sg l + (k - sg l) = k from by unfold i1 at h1; omega] at h
  exact h
theorem int_end (l : List UInt8) (h : i2 l < l.length) : isD (l.getD (i2 l) 0) = false := tw_end isD l (sg l) h
theorem fr_dig (l : List UInt8) (hd : dot (r1 l) = true) (k : Nat) (h1 : i2 l + 1 ≤ k) (h2 : k < i3 l) : k < l.length ∧ isD (l.getD k 0) = true := by
  rw [i3_dot l hd, fp_dot l hd] at h2
  have h := tw_lt isD l (i2 l + 1) (k - (i2 l + 1)) (by omega)
  rw [show i2 l + 1 + (k - (i2 l + 1)) = k from by omega] at h
  exact h
theorem fr_end (l : List UInt8) (hd : dot (r1 l) = true) (h : i3 l < l.length) : isD (l.getD (i3 l) 0) = false := by
  rw [i3_dot l hd, fp_dot l hd] at h ⊢
  exact tw_end isD l _ h
theorem ex_dig (l : List UInt8) (k : Nat) (h1 : i4 l ≤ k) (h2 : k < i5 l) : k < l.length ∧ isD (l.getD k 0) = true := by
  have h := tw_lt isD l (i4 l) (k - i4 l) (by unfold i5 at h2; omega)
  rw [show i4 l + (k - i4 l) = k from by omega] at h
  exact h
theorem ex_end (l : List UInt8) (h : i5 l < l.length) : isD (l.getD (i5 l) 0) = false := tw_end isD l _ h
theorem al_len (l : List UInt8) : (al l).length = (ip l).length + (fp l).length := by simp [al]
theorem ip_len (l : List UInt8) : (ip l).length = i2 l - i1 l := by unfold i2 i1; omega
theorem ip_cut (l : List UInt8) : ip l = (l.drop (i1 l)).take (i2 l - i1 l) := by
  rw [← ip_len]; exact (take_tw isD _).symm
theorem fp_cut (l : List UInt8) (h : dot (r1 l) = true) : fp l = (l.drop (i2 l + 1)).take (i3 l - (i2 l + 1)) := by
  rw [i3_dot l h, show i2 l + 1 + (fp l).length - (i2 l + 1) = (fp l).length from by omega]
  rw [fp_dot l h]; exact (take_tw isD _).symm

/-- The digits of the exponent that have been read by place k. -/
def exTo (l : List UInt8) (k : Nat) : Int := expo ((l.drop (i4 l)).take (k - i4 l))
theorem exTo_start (l : List UInt8) : exTo l (i4 l) = 0 := by simp [exTo, expo]
theorem exTo_next (l : List UInt8) (k : Nat) (h1 : i4 l ≤ k) (h2 : k < l.length) : exTo l (k + 1) = stepE (exTo l k) (l.getD k 0) := by
  unfold exTo
  rw [show k + 1 - i4 l = (k - i4 l) + 1 from by omega, List.take_succ_eq_append_getElem (by simp; omega), expo_snoc]
  congr 1
  simp [List.getD_eq_getElem?_getD, h2]
  congr 1; omega
theorem all_take (l : List UInt8) (k : Nat) (h : k ≤ i5 l) : ((l.drop (i4 l)).take (k - i4 l)).all isD = true := by
  simp only [List.all_eq_true]
  intro c hc
  obtain ⟨j, hj, rfl⟩ := List.getElem_of_mem hc
  simp at hj
  have := (ex_dig l (i4 l + j) (by omega) (by omega)).2
  simpa [List.getD_eq_getElem?_getD, show i4 l + j < l.length from by omega] using this
theorem exTo_bd (l : List UInt8) (k : Nat) (h : k ≤ i5 l) : 0 ≤ exTo l k ∧ exTo l k ≤ 1000000000 := expo_bd _ (all_take l k h)

/-! ### what the exponent comes to -/
theorem al_nil (l : List UInt8) (h : (ip l).length + (fp l).length = 0) : val l = none := by
  unfold val; rw [if_pos]; exact List.length_eq_zero_iff.1 (by rw [al_len]; exact h)
theorem al_ne (l : List UInt8) (h : (ip l).length + (fp l).length ≠ 0) : val l = ex (r3 l) := by
  unfold val; rw [if_neg]; intro e; rw [← al_len, e] at h; exact h rfl
theorem ex_plain (l : List UInt8) (h : isE (r3 l) = false) (h2 : i3 l = l.length) : ex (r3 l) = some 0 := by
  unfold ex; rw [if_neg (by rw [h]; simp), if_pos]; rw [← r3_drop, h2]; simp
theorem ex_more (l : List UInt8) (h : isE (r3 l) = false) (h2 : i3 l < l.length) : ex (r3 l) = none := by
  unfold ex; rw [if_neg (by rw [h]; simp), if_neg]; rw [← r3_drop]; intro e
  have := congrArg List.length e; simp at this; omega
theorem ex_empty (l : List UInt8) (h : isE (r3 l) = true) (h2 : i4 l = i5 l) : ex (r3 l) = none := by
  unfold ex; rw [if_pos h, if_neg]
  rw [exd_drop]
  rintro ⟨a, b⟩
  rcases Nat.lt_or_ge (i4 l) l.length with c | c
  · have hx := ex_end l (by omega)
    rw [← h2] at hx
    rw [drop_cons_getD l _ c] at b
    simp at b
    rw [List.getD_eq_getElem?_getD, b.1] at hx
    cases hx
  · exact a (List.drop_of_length_le c)
theorem ex_stop (l : List UInt8) (h : isE (r3 l) = true) (h2 : i5 l < l.length) : ex (r3 l) = none := by
  unfold ex; rw [if_pos h, if_neg]
  rw [exd_drop]
  rintro ⟨_, b⟩
  have hx := ex_end l h2
  rw [List.all_eq_true] at b
  have := b (l.getD (i5 l) 0) (by
    rw [List.mem_iff_getElem]
    have h45 := i45 l
    refine ⟨i5 l - i4 l, by simp; omega, ?_⟩
    simp [List.getD_eq_getElem?_getD, show i4 l + (i5 l - i4 l) = i5 l from by omega, h2])
  rw [hx] at this; cases this
theorem ex_whole (l : List UInt8) (h : isE (r3 l) = true) (h1 : i4 l < i5 l) (h2 : i5 l = l.length) :
    ex (r3 l) = some (if ng (l.drop (i3 l + 1)) = true then -(exTo l (i5 l)) else exTo l (i5 l)) := by
  have ht : (l.drop (i4 l)).take (i5 l - i4 l) = l.drop (i4 l) := List.take_of_length_le (by simp; omega)
  have ha := all_take l (i5 l) (Nat.le_refl _)
  unfold ex exTo; rw [if_pos h, if_pos]
  · rw [exd_drop, ng3_drop, ht]
  · rw [exd_drop]
    rw [ht] at ha
    refine ⟨?_, ha⟩
    intro e
    have := congrArg List.length e; simp at this; omega

end Go.Proofs.Qxb6003610aMods.Num
