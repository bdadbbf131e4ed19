/-
  THE PLAIN LAWS of request ids: lists of bytes alone; no Go.
-/
namespace Go.Proofs.Qxb6605518aMods.Rid

/-- A byte that an id may hold, as the service asks it. -/
def okN (n : Nat) : Bool := (decide (97 ≤ n) && decide (n ≤ 122)) || ((decide (65 ≤ n) && decide (n ≤ 90)) || ((decide (48 ≤ n) && decide (n ≤ 57)) || (n == 46 || (n == 95 || n == 45))))
def ok (c : UInt8) : Bool := okN c.toNat
def wf (l : List UInt8) : Bool := decide (1 ≤ l.length) && (decide (l.length ≤ 100) && l.all ok)

/-- The alphabet, written out. -/
def alph : List UInt8 := [97, 98, 99, 100, 101, 102, 103, 104, 105, 106, 107, 108, 109, 110, 111, 112, 113, 114, 115, 116, 117, 118, 119, 120, 121, 122, 65, 66, 67, 68, 69, 70, 71, 72, 73, 74, 75, 76, 77, 78, 79, 80, 81, 82, 83, 84, 85, 86, 87, 88, 89, 90, 48, 49, 50, 51, 52, 53, 54, 55, 56, 57, 46, 95, 45]
theorem alph_len : alph.length = 65 := rfl

/-- How often the letters of al stand in l. -/
def cnt (al l : List UInt8) : Nat := (al.map fun a => l.count a).sum

theorem cnt_nil (al : List UInt8) : cnt al [] = 0 := by
  induction al with
  | nil => rfl
  | cons a al ih => simp only [cnt, List.map_cons, List.sum_cons, List.count_nil] at *; omega
theorem cnt_cons (al l : List UInt8) (c : UInt8) : cnt al (c :: l) = cnt al l + al.count c := by
  induction al with
  | nil => rfl
  | cons a al ih =>
    simp only [cnt, List.map_cons, List.sum_cons] at *
    rw [ih, List.count_cons, List.count_cons]
    have : (c == a) = (a == c) := by rw [Bool.eq_iff_iff]; simp; exact eq_comm
    rw [this]; omega
theorem alph_tab : ∀ n, n < 256 → alph.count (UInt8.ofNat n) = if okN n then 1 else 0 := by decide +kernel
theorem alph_count (c : UInt8) : alph.count c = if ok c then 1 else 0 := by
  have h := alph_tab c.toNat (UInt8.toNat_lt c)
  rw [UInt8.ofNat_toNat] at h
  exact h
theorem cnt_alph (l : List UInt8) : cnt alph l = l.countP ok := by
  induction l with
  | nil => rw [cnt_nil]; rfl
  | cons c l ih => rw [cnt_cons, ih, alph_count, List.countP_cons]
theorem cnt_all (l : List UInt8) : (cnt alph l = l.length) ↔ l.all ok = true := by
  rw [cnt_alph, List.countP_eq_length, List.all_eq_true]

/-- What the model answers. -/
def modelB (l : List UInt8) : Bool := decide (1 ≤ l.length) && (decide (l.length ≤ 100) && decide (cnt alph l = l.length))
theorem model_wf (l : List UInt8) : modelB l = wf l := by
  have h : decide (cnt alph l = l.length) = l.all ok := by
    rw [Bool.eq_iff_iff, decide_eq_true_iff]
    exact cnt_all l
  unfold modelB wf
  rw [h]

/-- Two parts glued. -/
theorem wf_glue (a b : List UInt8) : wf (a ++ b) = if a.length = 0 then wf b else if b.length = 0 then wf a else wf a && (wf b && decide (a.length + b.length ≤ 100)) := by
  by_cases ha : a.length = 0
  · rw [if_pos ha]; rw [List.length_eq_zero_iff.1 ha]; rfl
  · rw [if_neg ha]
    by_cases hb : b.length = 0
    · rw [if_pos hb]; rw [List.length_eq_zero_iff.1 hb, List.append_nil]
    · rw [if_neg hb]
      unfold wf
      rw [Bool.eq_iff_iff]
      simp only [List.length_append, List.all_append, Bool.and_eq_true, decide_eq_true_iff]
      constructor
      · rintro ⟨h1, h2, h3, h4⟩
        exact ⟨⟨by omega, by omega, h3⟩, ⟨by omega, by omega, h4⟩, by omega⟩
      · rintro ⟨⟨h1, h2, h3⟩, ⟨h4, h5, h6⟩, h7⟩
        exact ⟨by omega, by omega, h3, h6⟩

/-- The letters ahead of letter k. -/
def cntTo (l : List UInt8) (k : Nat) : Nat := cnt (alph.take k) l
theorem cntTo_zero (l : List UInt8) : cntTo l 0 = 0 := rfl
theorem cntTo_all (l : List UInt8) (k : Nat) (h : 65 ≤ k) : cntTo l k = cnt alph l := by
  unfold cntTo; rw [List.take_of_length_le (by rw [alph_len]; exact h)]
theorem cntTo_next (l : List UInt8) (k : Nat) (h : k < 65) : cntTo l (k + 1) = cntTo l k + l.count (alph.getD k 0) := by
  unfold cntTo
  rw [List.take_succ_eq_append_getElem (by rw [alph_len]; exact h)]
  unfold cnt
  rw [List.map_append, List.sum_append]
  simp [List.getD_eq_getElem?_getD, List.getElem?_eq_getElem (show k < alph.length by rw [alph_len]; exact h)]
theorem cnt_le (al l : List UInt8) : cnt al l ≤ al.length * l.length := by
  induction al with
  | nil => simp [cnt]
  | cons a al ih =>
    have := List.count_le_length (a := a) (l := l)
    simp only [cnt, List.map_cons, List.sum_cons, List.length_cons] at *
    rw [Nat.add_mul]; omega
theorem cntTo_le (l : List UInt8) (k : Nat) : cntTo l k ≤ 65 * l.length := by
  have h1 := cnt_le (alph.take k) l
  have h2 : (alph.take k).length ≤ 65 := by rw [List.length_take, alph_len]; omega
  exact Nat.le_trans h1 (Nat.mul_le_mul_right _ h2)
/-- The c's among the first i bytes. -/
theorem count_next (l : List UInt8) (c : UInt8) (i : Nat) (h : i < l.length) : (l.take (i + 1)).count c = (l.take i).count c + if l.getD i 0 = c then 1 else 0 := by
  rw [List.take_succ_eq_append_getElem h, List.count_append]
  simp [List.getD_eq_getElem?_getD, List.getElem?_eq_getElem h, List.count_cons]

end Go.Proofs.Qxb6605518aMods.Rid
