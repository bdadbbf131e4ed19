/-
  THE PLAIN LAW of the writer: the text that Append writes is read back as the number.
-/
import Derived.Test.Qxb6003610aModsPlain
namespace Go.Proofs.Qxb6003610aMods.Num

def canonB (neg : Bool) (d : List UInt8) (x : Int) : Bool :=
  if d.isEmpty then !neg && x == 0 else d.all isD && (cd d 0 != 48 && cd d (d.length - 1) != 48)

def sgn (neg : Bool) : List UInt8 := if neg then [45] else []
/-- The text behind the sign. -/
def body (d : List UInt8) (x : Int) : List UInt8 :=
  if x < 0 then [48, 46] ++ (List.replicate (-x - 1).toNat 48 ++ d)
  else if x + 1 < d.length then d.take (x + 1).toNat ++ ([46] ++ d.drop (x + 1).toNat)
  else d ++ List.replicate (x + 1 - d.length).toNat 48
def txt (neg : Bool) (d : List UInt8) (x : Int) : List UInt8 := if d.isEmpty then [48] else sgn neg ++ body d x

theorem parts (neg : Bool) (A R : List UInt8) (hA : A ≠ []) (hAd : A.all isD = true) (l : List UInt8) (hl : l = sgn neg ++ (A ++ R)) :
    sg l = (sgn neg).length ∧ ng l = neg ∧ l.drop (sg l) = A ++ R := by
  cases A with
  | nil => exact absurd rfl hA
  | cons c t =>
    simp at hAd
    have hc := (isD_iff c).1 hAd.1
    cases neg
    · have hsg : sg l = 0 := by rw [hl]; simp only [sgn]; simp [sg]; omega
      rw [hsg, hl]
      refine ⟨rfl, ?_, rfl⟩
      simp [sgn, ng]; omega
    · have hsg : sg l = 1 := by rw [hl]; simp [sgn, sg]
      rw [hsg, hl]
      exact ⟨rfl, rfl, rfl⟩
theorem tw_app (A R : List UInt8) (hA : A.all isD = true) (hR : R.takeWhile isD = []) (hR2 : R.dropWhile isD = R) : (A ++ R).takeWhile isD = A ∧ (A ++ R).dropWhile isD = R := by
  have h : ∀ a ∈ A, isD a = true := by simpa using hA
  rw [List.takeWhile_append_of_pos h, List.dropWhile_append_of_pos h, hR, hR2]
  simp
theorem tw_all (F : List UInt8) (hF : F.all isD = true) : F.takeWhile isD = F ∧ F.dropWhile isD = [] := by
  have := tw_app F [] hF rfl rfl
  simpa using this

theorem says_point (neg : Bool) (A F : List UInt8) (hA : A ≠ []) (hAd : A.all isD = true) (hF : F.all isD = true) (l : List UInt8) (hl : l = sgn neg ++ (A ++ ([46] ++ F))) :
    ip l = A ∧ fp l = F ∧ ng l = neg ∧ val l = some 0 := by
  obtain ⟨h1, h2, h3⟩ := parts neg A ([46] ++ F) hA hAd l hl
  obtain ⟨h4, h5⟩ := tw_app A ([46] ++ F) hAd rfl rfl
  obtain ⟨h6, h7⟩ := tw_all F hF
  have e1 : ip l = A := by unfold ip; rw [h3]; exact h4
  have e2 : r1 l = 46 :: F := by unfold r1; rw [h3]; exact h5
  have e3 : fp l = F := by unfold fp; rw [e2]; exact h6
  have e4 : r3 l = [] := by unfold r3; rw [e2]; exact h7
  refine ⟨e1, e3, h2, ?_⟩
  unfold val al
  rw [e1, e3, e4, if_neg (by simp [hA])]
  rfl
theorem says_plain (neg : Bool) (A : List UInt8) (hA : A ≠ []) (hAd : A.all isD = true) (l : List UInt8) (hl : l = sgn neg ++ A) :
    ip l = A ∧ fp l = [] ∧ ng l = neg ∧ val l = some 0 := by
  obtain ⟨h1, h2, h3⟩ := parts neg A [] hA hAd l (by rw [hl]; simp)
  rw [List.append_nil] at h3
  obtain ⟨h4, h5⟩ := tw_all A hAd
  have e1 : ip l = A := by unfold ip; rw [h3]; exact h4
  have e2 : r1 l = [] := by unfold r1; rw [h3]; exact h5
  have e3 : fp l = [] := by unfold fp; rw [e2]; rfl
  have e4 : r3 l = [] := by unfold r3; rw [e2]; rfl
  refine ⟨e1, e3, h2, ?_⟩
  unfold val al
  rw [e1, e3, e4, if_neg (by simp [hA])]
  rfl

theorem rep_all (n : Nat) : (List.replicate n (48 : UInt8)).all isD = true := by
  simp; exact .inr (by decide)
theorem cd_app_left (u v : List UInt8) (k : Nat) (h : k < u.length) : cd (u ++ v) k = cd u k := by
  unfold cd; simp [List.getD_eq_getElem?_getD, List.getElem?_append_left h]
theorem cd_app_right (u v : List UInt8) (k : Nat) (h : u.length ≤ k) : cd (u ++ v) k = cd v (k - u.length) := by
  unfold cd; simp [List.getD_eq_getElem?_getD, List.getElem?_append_right h]
theorem cd_rep (n k : Nat) (h : k < n) : cd (List.replicate n (48 : UInt8)) k = 48 := by
  unfold cd; simp [List.getD_eq_getElem?_getD, h]

/-- The digits stand between zeros. -/
theorem mark_between (d : List UInt8) (hd : d ≠ []) (h0 : cd d 0 ≠ 48) (h1 : cd d (d.length - 1) ≠ 48) (p q : Nat) (a : List UInt8) (ha : a = List.replicate p 48 ++ (d ++ List.replicate q 48)) :
    Mark a p (p + (d.length - 1)) ∧ d = (a.drop p).take (p + (d.length - 1) + 1 - p) := by
  have hlen : 0 < d.length := List.length_pos_iff.2 hd
  have hr : (List.replicate p (48 : UInt8)).length = p := by simp
  have hal : a.length = p + (d.length + q) := by rw [ha]; simp
  have hmid : ∀ k, k < d.length → cd a (p + k) = cd d k := by
    intro k hk
    rw [ha, cd_app_right _ _ _ (by rw [hr]; omega), hr, cd_app_left _ _ _ (by omega), show p + k - p = k from by omega]
  refine ⟨⟨by omega, by omega, ?_, ?_, ?_, ?_⟩, ?_⟩
  · have := hmid 0 hlen; rw [Nat.add_zero] at this; rw [this]; exact h0
  · rw [hmid _ (by omega)]; exact h1
  · intro x hx
    rw [ha, cd_app_left _ _ _ (by rw [hr]; exact hx)]; exact cd_rep p x hx
  · intro x hx hx2
    rw [ha, cd_app_right _ _ _ (by rw [hr]; omega), hr, cd_app_right _ _ _ (by omega)]
    exact cd_rep q _ (by omega)
  · rw [ha, show p + (d.length - 1) + 1 - p = d.length from by omega, List.drop_append_of_le_length (by rw [hr]; omega), List.drop_of_length_le (by rw [hr]; omega)]
    simp

theorem says_txt (neg : Bool) (d : List UInt8) (x : Int) (h : canonB neg d x = true) : Says (txt neg d x) neg d x true := by
  by_cases hd : d = []
  · subst hd
    simp [canonB] at h
    obtain ⟨rfl, rfl⟩ := h
    refine .inr (.inl ⟨0, rfl, rfl, ?_, rfl, rfl, rfl⟩)
    intro j hj
    have : j = 0 := by
      have e : (al (txt false [] 0)).length = 1 := rfl
      omega
    subst this
    rfl
  have hlen : 0 < d.length := List.length_pos_iff.2 hd
  simp [canonB, hd] at h
  obtain ⟨hall, h0, h1⟩ := h
  have hall' : d.all isD = true := by simpa using hall
  unfold txt
  rw [if_neg (by simp [hd])]
  unfold body
  by_cases hx : x < 0
  · rw [if_pos hx]
    have hp := says_point neg [48] (List.replicate (-x - 1).toNat 48 ++ d) (by simp) (by decide) (by rw [List.all_append, rep_all, hall']; rfl) _ rfl
    rw [show (sgn neg ++ ([48] ++ ([46] ++ (List.replicate (-x - 1).toNat 48 ++ d)))) = sgn neg ++ ([48, 46] ++ (List.replicate (-x - 1).toNat 48 ++ d)) from rfl] at hp
    obtain ⟨e1, e2, e3, e4⟩ := hp
    have hm := mark_between d hd h0 h1 ((-x - 1).toNat + 1) 0 (al (sgn neg ++ ([48, 46] ++ (List.replicate (-x - 1).toNat 48 ++ d)))) (by unfold al; rw [e1, e2]; simp [List.replicate_succ])
    refine .inr (.inr ⟨0, _, _, e4, rfl, hm.1, e3.symm, hm.2, ?_⟩)
    rw [e1]; simp; omega
  · rw [if_neg hx]
    by_cases hw : x + 1 < d.length
    · rw [if_pos hw]
      have hp := says_point neg (d.take (x + 1).toNat) (d.drop (x + 1).toNat) (by intro e; have := congrArg List.length e; rw [List.length_take, List.length_nil] at this; omega)
        (by simp only [List.all_eq_true]; intro c hc; exact hall c (List.mem_of_mem_take hc)) (by simp only [List.all_eq_true]; intro c hc; exact hall c (List.mem_of_mem_drop hc)) _ rfl
      obtain ⟨e1, e2, e3, e4⟩ := hp
      have hm := mark_between d hd h0 h1 0 0 (al (sgn neg ++ (d.take (x + 1).toNat ++ ([46] ++ d.drop (x + 1).toNat)))) (by unfold al; rw [e1, e2]; simp)
      refine .inr (.inr ⟨0, _, _, e4, rfl, hm.1, e3.symm, hm.2, ?_⟩)
      rw [e1]; simp; omega
    · rw [if_neg hw]
      have hp := says_plain neg (d ++ List.replicate (x + 1 - d.length).toNat 48) (by simp [hd]) (by rw [List.all_append, rep_all, hall']; rfl) _ rfl
      obtain ⟨e1, e2, e3, e4⟩ := hp
      have hm := mark_between d hd h0 h1 0 (x + 1 - d.length).toNat (al (sgn neg ++ (d ++ List.replicate (x + 1 - d.length).toNat 48))) (by unfold al; rw [e1, e2]; simp)
      refine .inr (.inr ⟨0, _, _, e4, rfl, hm.1, e3.symm, hm.2, ?_⟩)
      rw [e1]; simp; omega

end Go.Proofs.Qxb6003610aMods.Num
