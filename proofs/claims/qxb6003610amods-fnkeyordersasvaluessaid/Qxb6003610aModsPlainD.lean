/-
  THE PLAIN LAW of keys: they compare byte by byte as the numbers compare by value.
-/
import Derived.Test.Qxb6003610aModsPlainC
namespace Go.Proofs.Qxb6003610aMods.Num

/-- The order of two strings of bytes: -1, 0, 1. -/
def cmp : List UInt8 → List UInt8 → Int
  | [], [] => 0
  | [], _ :: _ => -1
  | _ :: _, [] => 1
  | x :: a, y :: b => if x.toNat < y.toNat then -1 else if y.toNat < x.toNat then 1 else cmp a b

theorem cmp_bd (a b : List UInt8) : -1 ≤ cmp a b ∧ cmp a b ≤ 1 := by
  induction a generalizing b with
  | nil => cases b <;> simp [cmp]
  | cons x a ih =>
    cases b with
    | nil => simp [cmp]
    | cons y b =>
      have := ih b
      simp only [cmp]; split
      · omega
      · split <;> omega

/-- At place k, all ahead being equal. -/
theorem cmp_lt (a b : List UInt8) (k : Nat) (ha : k < a.length) (hb : k < b.length) (h : cd a k < cd b k) : cmp (a.drop k) (b.drop k) = -1 := by
  rw [drop_cons_getD a k ha, drop_cons_getD b k hb]
  simp only [cmp]
  unfold cd at h
  rw [if_pos h]
theorem cmp_gt (a b : List UInt8) (k : Nat) (ha : k < a.length) (hb : k < b.length) (h : cd b k < cd a k) : cmp (a.drop k) (b.drop k) = 1 := by
  rw [drop_cons_getD a k ha, drop_cons_getD b k hb]
  simp only [cmp]
  unfold cd at h
  rw [if_neg (by omega), if_pos h]
theorem cmp_eq (a b : List UInt8) (k : Nat) (ha : k < a.length) (hb : k < b.length) (h : cd a k = cd b k) : cmp (a.drop k) (b.drop k) = cmp (a.drop (k + 1)) (b.drop (k + 1)) := by
  rw [drop_cons_getD a k ha, drop_cons_getD b k hb]
  simp only [cmp]
  unfold cd at h
  rw [if_neg (by omega), if_neg (by omega)]
theorem cmp_end (a b : List UInt8) (k : Nat) (h : a.length ≤ k ∨ b.length ≤ k) (ha : k ≤ a.length) (hb : k ≤ b.length) :
    cmp (a.drop k) (b.drop k) = if a.length < b.length then -1 else if b.length < a.length then 1 else 0 := by
  rcases Nat.lt_trichotomy a.length b.length with c | c | c
  · rw [if_pos c, List.drop_of_length_le (show a.length ≤ k by omega), drop_cons_getD b k (by omega)]; rfl
  · rw [if_neg (by omega), if_neg (by omega), List.drop_of_length_le (show a.length ≤ k by omega), List.drop_of_length_le (show b.length ≤ k by omega)]; rfl
  · rw [if_neg (by omega), if_pos c, List.drop_of_length_le (show b.length ≤ k by omega), drop_cons_getD a k (by omega)]; rfl

/-- The byte of the power of ten. -/
def eb (x : Int) : UInt8 := UInt8.ofNat (x + 130).toNat
theorem eb_nat (x : Int) (h1 : -130 ≤ x) (h2 : x ≤ 125) : ((eb x).toNat : Int) = x + 130 := by
  unfold eb; rw [UInt8.toNat_ofNat']; omega
def fb (x : Int) : UInt8 := UInt8.ofNat (255 - (x + 130)).toNat
theorem fb_nat (x : Int) (h1 : -130 ≤ x) (h2 : x ≤ 125) : ((fb x).toNat : Int) = 255 - (x + 130) := by
  unfold fb; rw [UInt8.toNat_ofNat']; omega
/-- A digit's complement. -/
def comp (c : UInt8) : UInt8 := UInt8.ofNat (105 - c.toNat)
theorem comp_nat (c : UInt8) : (comp c).toNat = 105 - c.toNat := by
  unfold comp; rw [UInt8.toNat_ofNat']; omega

def key (neg : Bool) (d : List UInt8) (x : Int) : List UInt8 :=
  if d.isEmpty then [1] else if neg then [0, fb x] ++ d.map comp ++ [58] else [2, eb x] ++ d

def sig (neg : Bool) (d : List UInt8) : Int := if d.isEmpty then 0 else if neg then -1 else 1
def mag (d : List UInt8) (x : Int) (d' : List UInt8) (x' : Int) : Int := if x < x' then -1 else if x' < x then 1 else cmp d d'
def cmpV (n : Bool) (d : List UInt8) (x : Int) (n' : Bool) (d' : List UInt8) (x' : Int) : Int :=
  if sig n d < sig n' d' then -1 else if sig n' d' < sig n d then 1 else if sig n d = 0 then 0
  else if sig n d < 0 then -(mag d x d' x') else mag d x d' x'

theorem cmp_comp (d d' : List UInt8) (h : ∀ c ∈ d, isD c = true) (h' : ∀ c ∈ d', isD c = true) : cmp (d.map comp ++ [58]) (d'.map comp ++ [58]) = -(cmp d d') := by
  have e58 : (58 : UInt8).toNat = 58 := rfl
  induction d generalizing d' with
  | nil =>
    cases d' with
    | nil => simp [cmp]
    | cons y b =>
      have hy := (isD_iff y).1 (h' y (by simp))
      have := comp_nat y
      simp only [List.map_nil, List.nil_append, List.map_cons, List.cons_append, cmp]
      rw [if_neg (by omega), if_pos (by omega)]; rfl
  | cons x a ih =>
    have hx := (isD_iff x).1 (h x (by simp))
    have ex := comp_nat x
    cases d' with
    | nil =>
      simp only [List.map_nil, List.nil_append, List.map_cons, List.cons_append, cmp]
      rw [if_pos (by omega)]
    | cons y b =>
      have hy := (isD_iff y).1 (h' y (by simp))
      have ey := comp_nat y
      have := ih b (fun c hc => h c (by simp [hc])) (fun c hc => h' c (by simp [hc]))
      simp only [List.map_cons, List.cons_append, cmp]
      rcases Nat.lt_trichotomy x.toNat y.toNat with c | c | c
      · rw [if_neg (by omega), if_pos (by omega), if_pos c]; rfl
      · rw [if_neg (by omega), if_neg (by omega), if_neg (by omega), if_neg (by omega)]; exact this
      · rw [if_pos (by omega), if_neg (by omega), if_pos c]

theorem canon_dig (n : Bool) (d : List UInt8) (x : Int) (h : canonB n d x = true) : ∀ c ∈ d, isD c = true := by
  intro c hc
  have hd : d ≠ [] := by intro e; rw [e] at hc; cases hc
  simp [canonB, hd] at h
  exact h.1 c hc

theorem key_orders (n : Bool) (d : List UInt8) (x : Int) (n' : Bool) (d' : List UInt8) (x' : Int) (h : canonB n d x = true) (h' : canonB n' d' x' = true)
    (h1 : -130 ≤ x) (h2 : x ≤ 125) (h3 : -130 ≤ x') (h4 : x' ≤ 125) : cmp (key n d x) (key n' d' x') = cmpV n d x n' d' x' := by
  have c0 := canon_dig n d x h
  have c0' := canon_dig n' d' x' h'
  have e1 := eb_nat x h1 h2
  have e2 := eb_nat x' h3 h4
  have f1 := fb_nat x h1 h2
  have f2 := fb_nat x' h3 h4
  have k0 : (0 : UInt8).toNat = 0 := rfl
  have k1 : (1 : UInt8).toNat = 1 := rfl
  have k2 : (2 : UInt8).toNat = 2 := rfl
  unfold cmpV key sig mag
  cases hd : d.isEmpty <;> cases hd' : d'.isEmpty <;> cases n <;> cases n' <;> simp [cmp, k0, k1, k2]
  · rcases Int.lt_trichotomy x x' with c | c | c
    · rw [if_pos (show (eb x).toNat < (eb x').toNat by omega), if_pos c]
    · rw [if_neg (by omega), if_neg (by omega), if_neg (by omega), if_neg (by omega)]
    · rw [if_neg (by omega), if_pos (by omega), if_neg (by omega), if_pos c]
  · rcases Int.lt_trichotomy x x' with c | c | c
    · rw [if_neg (by omega), if_pos (show (fb x').toNat < (fb x).toNat by omega), if_pos c]; rfl
    · rw [if_neg (by omega), if_neg (by omega), if_neg (by omega), if_neg (by omega)]; exact cmp_comp d d' c0 c0'
    · rw [if_pos (by omega), if_neg (by omega), if_pos c]

end Go.Proofs.Qxb6003610aMods.Num
