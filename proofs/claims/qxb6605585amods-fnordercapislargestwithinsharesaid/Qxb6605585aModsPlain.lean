/-
  THE PLAIN LAWS of a redemption's limits: integers alone; no Go.
-/
namespace Go.Proofs.Qxb6605585aMods.Led

/-- n points cost no more than the limit (in hundredths). -/
def fits (n pv lim : Int) : Bool := decide (0 ≤ n) && decide (n * 100 * pv ≤ lim)

theorem fits_neg (n pv lim : Int) (h : n < 0) : fits n pv lim = false := by
  unfold fits; rw [decide_eq_false (by omega)]; rfl
theorem fits_zero (n pv lim : Int) (h : n = 0) (hl : 0 ≤ lim) : fits n pv lim = true := by
  subst h; simp [fits, hl]
theorem mul_ge (n pv : Int) (hn : 0 ≤ n) (hp : 1 ≤ pv) : n ≤ n * pv := by
  have := Int.mul_le_mul_of_nonneg_left hp hn
  omega
theorem fits_big (n pv lim : Int) (hp : 1 ≤ pv) (hl : 0 ≤ lim) (h : lim / 100 < n) : fits n pv lim = false := by
  have h1 := mul_ge (n * 100) pv (by omega) hp
  unfold fits; rw [decide_eq_false (show ¬ n * 100 * pv ≤ lim by omega)]; simp
theorem fits_quot (n pv lim : Int) (hn : 0 < n) : fits n pv lim = decide (pv ≤ lim / (n * 100)) := by
  unfold fits
  rw [decide_eq_true (show 0 ≤ n by omega), Bool.true_and, Bool.eq_iff_iff, decide_eq_true_iff, decide_eq_true_iff]
  rw [Int.le_ediv_iff_mul_le (by omega), Int.mul_comm pv]

/-- The order's cap. -/
def cap (pv lim : Int) : Int := lim / 100 / pv

theorem cap_nonneg (pv lim : Int) (hp : 1 ≤ pv) (hl : 0 ≤ lim) : 0 ≤ cap pv lim := Int.ediv_nonneg (by omega) (by omega)
theorem cap_le (pv lim : Int) (hl : 0 ≤ lim) : cap pv lim ≤ lim / 100 := Int.ediv_le_self _ (by omega)
/-- n points fit exactly up to the cap. -/
theorem fits_iff (n pv lim : Int) (hp : 1 ≤ pv) (hn : 0 ≤ n) : fits n pv lim = decide (n ≤ cap pv lim) := by
  unfold fits cap
  rw [decide_eq_true hn, Bool.true_and, Bool.eq_iff_iff, decide_eq_true_iff, decide_eq_true_iff]
  rw [Int.le_ediv_iff_mul_le (by omega), Int.le_ediv_iff_mul_le (by omega)]
  rw [show n * pv * 100 = n * 100 * pv from by rw [Int.mul_assoc, Int.mul_comm pv, ← Int.mul_assoc]]
theorem fits_cap (pv lim : Int) (hp : 1 ≤ pv) (hl : 0 ≤ lim) : fits (cap pv lim) pv lim = true := by
  rw [fits_iff _ _ _ hp (cap_nonneg pv lim hp hl)]; simp
theorem fits_more (pv lim : Int) (hp : 1 ≤ pv) (hl : 0 ≤ lim) : fits (cap pv lim + 1) pv lim = false := by
  have := cap_nonneg pv lim hp hl
  rw [fits_iff _ _ _ hp (by omega)]; simp; omega

/-- The product of an order and its share. -/
theorem lim_bd (sub sh : Int) (h1 : 0 ≤ sub) (h2 : sub ≤ 1000000000000000) (h3 : 0 ≤ sh) (h4 : sh ≤ 100) : 0 ≤ sub * sh ∧ sub * sh ≤ 100000000000000000 := by
  refine ⟨Int.mul_nonneg h1 h3, ?_⟩
  have a := Int.mul_le_mul_of_nonneg_left h4 h1
  omega

end Go.Proofs.Qxb6605585aMods.Led
