/-
  THE PLAIN LAWS of the reader that goes over the mantissa in one loop: places in the text against places among the digits.
-/
import Derived.Test.Qxb6003610aModsPlain
namespace Go.Proofs.Qxb6003610aMods.Num

/-- How many digits stand ahead of place k. -/
def jd (l : List UInt8) (k : Nat) : Nat := if k ≤ i2 l then k - i1 l else k - i1 l - 1
/-- Where digit x stands in the text. -/
def pos (l : List UInt8) (x : Nat) : Nat := if x < (ip l).length then i1 l + x else i1 l + x + 1
/-- Is place k a digit of the mantissa? -/
def dp (l : List UInt8) (k : Nat) : Prop := (i1 l ≤ k ∧ k < i2 l) ∨ (dot (r1 l) = true ∧ i2 l + 1 ≤ k ∧ k < i3 l)

theorem al_int (l : List UInt8) (x : Nat) (h : x < (ip l).length) : cd (al l) x = cd l (i1 l + x) := by
  have h' : x < i2 l - i1 l := by rw [← ip_len]; exact h
  have e : (al l).getD x 0 = (ip l).getD x 0 := by
    unfold al; simp [List.getD_eq_getElem?_getD, List.getElem?_append_left h]
  unfold cd; rw [e, ip_cut]
  simp [List.getD_eq_getElem?_getD, h']
theorem al_frac (l : List UInt8) (hd : dot (r1 l) = true) (x : Nat) (h1 : (ip l).length ≤ x) (h2 : x < (al l).length) : cd (al l) x = cd l (i1 l + x + 1) := by
  have e : (al l).getD x 0 = (fp l).getD (x - (ip l).length) 0 := by
    unfold al; simp [List.getD_eq_getElem?_getD, List.getElem?_append_right h1]
  have hi := ip_len l
  have h12 := i12 l
  have h3 := i3_dot l hd
  rw [al_len] at h2
  unfold cd; rw [e, fp_cut l hd]
  have h' : x - (ip l).length < i3 l - (i2 l + 1) := by omega
  simp [List.getD_eq_getElem?_getD, h']
  rw [show i2 l + 1 + (x - (ip l).length) = i1 l + x + 1 from by omega]

theorem jd_start (l : List UInt8) : jd l (i1 l) = 0 := by
  have := i12 l
  unfold jd; rw [if_pos this]; omega
theorem jd_end (l : List UInt8) : jd l (i3 l) = (al l).length := by
  have h12 := i12 l
  have hi := ip_len l
  rw [al_len]
  cases hd : dot (r1 l)
  · rw [i3_no l hd, fp_no l hd]; unfold jd; rw [if_pos (Nat.le_refl _)]; simp; omega
  · rw [i3_dot l hd]; unfold jd; rw [if_neg (by omega)]; omega
theorem jd_dot (l : List UInt8) : jd l (i2 l + 1) = jd l (i2 l) := by
  unfold jd; rw [if_neg (by omega), if_pos (Nat.le_refl _)]; omega
theorem dp_next (l : List UInt8) (k : Nat) (h : dp l k) : jd l (k + 1) = jd l k + 1 := by
  have h12 := i12 l
  rcases h with ⟨a, b⟩ | ⟨_, b, c⟩
  · unfold jd; rw [if_pos (by omega), if_pos (by omega)]; omega
  · unfold jd; rw [if_neg (by omega), if_neg (by omega)]; omega
theorem dp_pos (l : List UInt8) (k : Nat) (h : dp l k) : pos l (jd l k) = k := by
  have h12 := i12 l
  have hi := ip_len l
  rcases h with ⟨a, b⟩ | ⟨_, b, c⟩
  · have e : jd l k = k - i1 l := by unfold jd; rw [if_pos (by omega)]
    rw [e]; unfold pos; rw [if_pos (by omega)]; omega
  · have e : jd l k = k - i1 l - 1 := by unfold jd; rw [if_neg (by omega)]
    rw [e]; unfold pos; rw [if_neg (by omega)]; omega
theorem dp_cd (l : List UInt8) (k : Nat) (h : dp l k) : cd (al l) (jd l k) = cd l k := by
  have h12 := i12 l
  have hi := ip_len l
  rcases h with ⟨a, b⟩ | ⟨hd, b, c⟩
  · unfold jd; rw [if_pos (by omega), al_int l _ (by omega)]; congr 1; omega
  · have h3 := i3_dot l hd
    unfold jd; rw [if_neg (by omega), al_frac l hd _ (by omega) (by rw [al_len]; omega)]; congr 1; omega
theorem dp_isD (l : List UInt8) (k : Nat) (h : dp l k) : k < l.length ∧ isD (l.getD k 0) = true := by
  rcases h with ⟨a, b⟩ | ⟨hd, b, c⟩
  · exact int_dig l k a b
  · exact fr_dig l hd k b c

/-- What the loop knows of the first and the last digit that is no zero, at place k. -/
def FL (l : List UInt8) (k : Nat) (f t : Int) : Prop :=
  (f = -1 ∧ t = -1 ∧ ∀ x, x < jd l k → cd (al l) x = 48) ∨
  (∃ a b, f = pos l a ∧ t = pos l b ∧ a ≤ b ∧ b < jd l k ∧ cd (al l) a ≠ 48 ∧ cd (al l) b ≠ 48 ∧ (∀ x, x < a → cd (al l) x = 48) ∧ ∀ x, b < x → x < jd l k → cd (al l) x = 48)

theorem FL.start (l : List UInt8) : FL l (i1 l) (-1) (-1) :=
  .inl ⟨rfl, rfl, fun x hx => by rw [jd_start] at hx; omega⟩
theorem FL.dot {l : List UInt8} {f t : Int} (h : FL l (i2 l) f t) : FL l (i2 l + 1) f t := by
  unfold FL at *; rw [jd_dot]; exact h
theorem FL.zero {l : List UInt8} {k : Nat} {f t : Int} (h : FL l k f t) (hd : dp l k) (hz : cd l k = 48) : FL l (k + 1) f t := by
  unfold FL at *; rw [dp_next l k hd]
  rw [← dp_cd l k hd] at hz
  rcases h with ⟨h1, h2, h3⟩ | ⟨a, b, h1, h2, h3, h4, h5, h6, h7, h8⟩
  · refine .inl ⟨h1, h2, fun x hx => ?_⟩
    rcases Nat.lt_or_ge x (jd l k) with c | c
    · exact h3 x c
    · obtain rfl : x = jd l k := by omega
      exact hz
  · refine .inr ⟨a, b, h1, h2, h3, by omega, h5, h6, h7, fun x hx hx2 => ?_⟩
    rcases Nat.lt_or_ge x (jd l k) with c | c
    · exact h8 x hx c
    · obtain rfl : x = jd l k := by omega
      exact hz
theorem FL.first {l : List UInt8} {k : Nat} {f t : Int} (h : FL l k f t) (hd : dp l k) (hz : cd l k ≠ 48) (hf : f < 0) : FL l (k + 1) k k := by
  unfold FL at *; rw [dp_next l k hd]
  rw [← dp_cd l k hd] at hz
  have hp := dp_pos l k hd
  rcases h with ⟨h1, h2, h3⟩ | ⟨a, b, h1, h2, h3, h4, h5, h6, h7, h8⟩
  · exact .inr ⟨jd l k, jd l k, by rw [hp], by rw [hp], Nat.le_refl _, by omega, hz, hz, h3, fun x _ _ => by omega⟩
  · omega
theorem FL.later {l : List UInt8} {k : Nat} {f t : Int} (h : FL l k f t) (hd : dp l k) (hz : cd l k ≠ 48) (hf : ¬ f < 0) : FL l (k + 1) f k := by
  unfold FL at *; rw [dp_next l k hd]
  rw [← dp_cd l k hd] at hz
  have hp := dp_pos l k hd
  rcases h with ⟨h1, h2, h3⟩ | ⟨a, b, h1, h2, h3, h4, h5, h6, h7, h8⟩
  · omega
  · exact .inr ⟨a, jd l k, h1, by rw [hp], by omega, by omega, h5, hz, h7, fun x _ _ => by omega⟩
/-- At the mantissa's end. -/
theorem FL.ends {l : List UInt8} {f t : Int} (h : FL l (i3 l) f t) : (f = -1 ∧ ∀ j, j < (al l).length → cd (al l) j = 48) ∨
    ∃ a b, f = pos l a ∧ t = pos l b ∧ Mark (al l) a b := by
  unfold FL at h; rw [jd_end] at h
  rcases h with ⟨h1, _, h3⟩ | ⟨a, b, h1, h2, h3, h4, h5, h6, h7, h8⟩
  · exact .inl ⟨h1, h3⟩
  · exact .inr ⟨a, b, h1, h2, h3, h4, h5, h6, h7, h8⟩

/-! ### the digits that are cut out of the text -/
theorem take_drop_app_left (u v : List UInt8) (a n : Nat) (h : a + n ≤ u.length) : ((u ++ v).drop a).take n = (u.drop a).take n := by
  rw [List.drop_append_of_le_length (by omega), List.take_append_of_le_length (by simp; omega)]
theorem take_drop_app_right (u v : List UInt8) (a n : Nat) (h : u.length ≤ a) : ((u ++ v).drop a).take n = (v.drop (a - u.length)).take n := by
  rw [List.drop_append, List.drop_of_length_le h]; simp
theorem cut_cut (l : List UInt8) (p q a n : Nat) (h : a + n ≤ q) : (((l.drop p).take q).drop a).take n = (l.drop (p + a)).take n := by
  rw [List.drop_take, List.take_take, List.drop_drop, Nat.min_eq_left (by omega)]

theorem digits_left (l : List UInt8) (a b : Nat) (hab : a ≤ b) (h : b < (ip l).length) :
    (l.drop (i1 l + a)).take (i1 l + b + 1 - (i1 l + a)) = ((al l).drop a).take (b + 1 - a) := by
  have hi := ip_len l
  unfold al; rw [take_drop_app_left _ _ _ _ (by omega), ip_cut, cut_cut _ _ _ _ _ (by omega)]
  congr 1; omega
theorem digits_right (l : List UInt8) (hd : dot (r1 l) = true) (a b : Nat) (hab : a ≤ b) (h : (ip l).length ≤ a) (hb : b < (al l).length) :
    (l.drop (i1 l + a + 1)).take (i1 l + b + 1 + 1 - (i1 l + a + 1)) = ((al l).drop a).take (b + 1 - a) := by
  have hi := ip_len l
  have h12 := i12 l
  have h3 := i3_dot l hd
  rw [al_len] at hb
  unfold al; rw [take_drop_app_right _ _ _ _ h, fp_cut l hd, cut_cut _ _ _ _ _ (by omega)]
  rw [show i2 l + 1 + (a - (ip l).length) = i1 l + a + 1 from by omega]
  congr 1; omega
theorem digits_both (l : List UInt8) (hd : dot (r1 l) = true) (a b : Nat) (ha : a < (ip l).length) (h : (ip l).length ≤ b) (hb : b < (al l).length) :
    (l.drop (i1 l + a)).take (i2 l - (i1 l + a)) ++ (l.drop (i2 l + 1)).take (i1 l + b + 1 + 1 - (i2 l + 1)) = ((al l).drop a).take (b + 1 - a) := by
  have hi := ip_len l
  have h12 := i12 l
  have h3 := i3_dot l hd
  rw [al_len] at hb
  have e1 : (l.drop (i1 l + a)).take (i2 l - (i1 l + a)) = (ip l).drop a := by
    rw [ip_cut, List.drop_take, List.drop_drop]; congr 1; omega
  have e2 : (l.drop (i2 l + 1)).take (i1 l + b + 1 + 1 - (i2 l + 1)) = (fp l).take (b + 1 - (ip l).length) := by
    rw [fp_cut l hd, List.take_take, Nat.min_eq_left (by omega)]; congr 1; omega
  rw [e1, e2]; unfold al
  have e3 : ((ip l).drop a).take (b + 1 - a) = (ip l).drop a := List.take_of_length_le (by rw [List.length_drop]; omega)
  rw [List.drop_append_of_le_length (by omega), List.take_append, e3, List.length_drop, show b + 1 - a - ((ip l).length - a) = b + 1 - (ip l).length from by omega]
theorem right_dot (l : List UInt8) (b : Nat) (h : (ip l).length ≤ b) (hb : b < (al l).length) : dot (r1 l) = true := by
  cases hd : dot (r1 l)
  · rw [al_len, fp_no l hd] at hb; simp at hb; omega
  · rfl

/-- Where the point stands, -1 for none. -/
def pt (l : List UInt8) : Int := if dot (r1 l) = true then (i2 l : Int) else -1
/-- What the loop knows of the point at place k. -/
def PT (l : List UInt8) (k : Nat) (p : Int) : Prop := (k ≤ i2 l ∧ p = -1) ∨ (dot (r1 l) = true ∧ i2 l + 1 ≤ k ∧ p = i2 l)

theorem place (l : List UInt8) (k : Nat) (p : Int) (h1 : i1 l ≤ k) (h3 : k ≤ i3 l) (h : PT l k p) :
    (dp l k ∧ PT l (k + 1) p ∧ k < i3 l) ∨ (k = i2 l ∧ dot (r1 l) = true ∧ p = -1 ∧ k < l.length ∧ cd l k = 46 ∧ k < i3 l ∧ PT l (k + 1) (k : Nat)) ∨
    (k = i3 l ∧ p = pt l ∧ (k < l.length → isD (l.getD k 0) = false ∧ (cd l k ≠ 46 ∨ ¬ p < 0))) := by
  have h23 := i23 l
  rcases h with ⟨a, b⟩ | ⟨a, b, c⟩
  · rcases Nat.lt_or_ge k (i2 l) with d | d
    · exact .inl ⟨.inl ⟨h1, d⟩, .inl ⟨d, b⟩, by omega⟩
    · obtain rfl : k = i2 l := by omega
      cases hd : dot (r1 l)
      · refine .inr (.inr ⟨(i3_no l hd).symm, by unfold pt; rw [hd, b]; rfl, fun hk => ⟨int_end l hk, ?_⟩⟩)
        rw [← r1_drop, dot_at l _ hk] at hd
        exact .inl (by simpa using hd)
      · have hk := i2_dot l hd
        have h3' := i3_dot l hd
        refine .inr (.inl ⟨rfl, rfl, b, hk, ?_, by omega, .inr ⟨hd, Nat.le_refl _, rfl⟩⟩)
        rw [← r1_drop, dot_at l _ hk] at hd
        simpa using hd
  · rcases Nat.lt_or_ge k (i3 l) with d | d
    · exact .inl ⟨.inr ⟨a, b, d⟩, .inr ⟨a, by omega, c⟩, d⟩
    · obtain rfl : k = i3 l := by omega
      refine .inr (.inr ⟨rfl, by unfold pt; rw [if_pos a]; exact c, fun hk => ⟨fr_end l a hk, .inr (by omega)⟩⟩)
theorem PT.start (l : List UInt8) : PT l (i1 l) (-1) := .inl ⟨i12 l, rfl⟩
theorem pt_lt (l : List UInt8) (h : pt l < 0) : i3 l = i2 l := by
  unfold pt at h
  cases hd : dot (r1 l)
  · exact i3_no l hd
  · rw [if_pos hd] at h; omega
theorem pt_ge (l : List UInt8) (h : ¬ pt l < 0) : pt l = i2 l := by
  unfold pt at *
  cases hd : dot (r1 l)
  · rw [if_neg (by rw [hd]; simp)] at h; omega
  · rw [if_pos rfl]
theorem pt_bd (l : List UInt8) : -1 ≤ pt l ∧ pt l ≤ i2 l := by unfold pt; split <;> omega
/-- Nothing has been read as a digit. -/
theorem none_read (l : List UInt8) : (i3 l = i1 l ∨ (i3 l = i1 l + 1 ∧ pt l = i1 l)) ↔ (al l).length = 0 := by
  have h12 := i12 l
  have hi := ip_len l
  rw [al_len]
  unfold pt
  cases hd : dot (r1 l)
  · rw [i3_no l hd, fp_no l hd, if_neg (by simp), List.length_nil]; omega
  · rw [i3_dot l hd, if_pos rfl]; omega

end Go.Proofs.Qxb6003610aMods.Num
