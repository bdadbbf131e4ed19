/-
  THE WALKS of zzCompareStrings, zzSign and zzCompareValues.
-/
import Derived.Test.Qxb6003610aModsCanon
import Derived.Test.Qxb6003610aModsPlainD
namespace Go.Proofs.Qxb6003610aMods
open Go.RowKit

theorem ret_int {a b : Int} (h : a = b) : Ending.returned (.int .i64 a) = .returned (.int .i64 b) := by rw [h]

set_option maxRecDepth 100000 in
set_option maxHeartbeats 1000000 in
theorem cmps_any (a b : ByteArray) (w : World) (ha : a.size ≤ 1048576) (_hb : b.size ≤ 1048576) :
    Calls Trym.prog 15 #[.string a, .string b] w fun e w' => e = .returned (.int .i64 (Num.cmp a.data.toList b.data.toList)) ∧ ∃ m, w' = w.drewN m := by
  go_enter Trym.func15, Trym.ntmps15
  go_upto_if 12 with fail
  go_cut [5] (fun v wx => (∃ n : Nat, v = .int .i64 n ∧ n ≤ a.size ∧ n ≤ b.size ∧ (a.size ≤ n ∨ b.size ≤ n)) ∧ w = wx)
  case first =>
    by_cases h : b.size < a.size
    · go_wp2
      go_meet
      case rel => exact ⟨⟨b.size, rfl, by omega, by omega, by omega⟩, rfl⟩
    · go_wp2
      go_meet
      case rel => exact ⟨⟨a.size, rfl, by omega, by omega, by omega⟩, rfl⟩
  case rest =>
  obtain ⟨⟨n, rfl, hna, hnb, hor⟩, rfl⟩ := hcut
  go_wp2_with fail
  go_loopw [6] (fun i wr => ∃ (k m : Nat), k ≤ n ∧ i = .int .i64 k ∧ wr = w.drewN m ∧ Hid (Num.cmp a.data.toList b.data.toList = Num.cmp (a.data.toList.drop k) (b.data.toList.drop k))) (fun i _ => n - (intOf i).toNat)
  case atStart => exact ⟨0, 0, Nat.zero_le _, rfl, rfl, rfl⟩
  case round =>
    obtain ⟨k, m, hk, rfl, rfl, HK⟩ := hrel
    by_cases hlt : k < n
    · have hka : k < a.size := by omega
      have hkb : k < b.size := by omega
      have hkai : (k : Int) < (a.size : Int) := by omega
      have hkbi : (k : Int) < (b.size : Int) := by omega
      rcases Nat.lt_trichotomy a[k].toNat b[k].toNat with c | c | c
      · have HR : Hid (Num.cmp a.data.toList b.data.toList = -1) := HK.out.trans (Num.cmp_lt _ _ k (by rw [len_s]; exact hka) (by rw [len_s]; exact hkb) (by rw [cd_s a k hka, cd_s b k hkb]; exact c))
        have hci : (a[k].toNat : Int) < (b[k].toNat : Int) := by omega
        clear HK c
        go_wp2
        go_quiet (fail)
        go_wp2
        go_ret
        refine ⟨ret_int HR.out.symm, ?_⟩
        rw [World.drewN_drewN]
        exact ⟨_, rfl⟩
      · have HR : Hid (Num.cmp a.data.toList b.data.toList = Num.cmp (a.data.toList.drop (k + 1)) (b.data.toList.drop (k + 1))) := HK.out.trans (Num.cmp_eq _ _ k (by rw [len_s]; exact hka) (by rw [len_s]; exact hkb) (by rw [cd_s a k hka, cd_s b k hkb]; exact c))
        have hc1 : ¬ (a[k].toNat : Int) < (b[k].toNat : Int) := by omega
        have hc2 : ¬ (b[k].toNat : Int) < (a[k].toNat : Int) := by omega
        clear HK c
        go_wp2
        go_quiet (fail)
        go_wp2
        go_quiet (fail)
        go_wp2
        go_roundw
        case rel => exact ⟨k + 1, _, by omega, by go_num, rfl, HR⟩
        case measure => simp [intOf]; omega
      · have HR : Hid (Num.cmp a.data.toList b.data.toList = 1) := HK.out.trans (Num.cmp_gt _ _ k (by rw [len_s]; exact hka) (by rw [len_s]; exact hkb) (by rw [cd_s a k hka, cd_s b k hkb]; exact c))
        have hc1 : ¬ (a[k].toNat : Int) < (b[k].toNat : Int) := by omega
        have hci : (b[k].toNat : Int) < (a[k].toNat : Int) := by omega
        clear HK c
        go_wp2
        go_quiet (fail)
        go_wp2
        go_quiet (fail)
        go_wp2
        go_ret
        refine ⟨ret_int HR.out.symm, ?_⟩
        rw [World.drewN_drewN, World.drewN_drewN]
        exact ⟨_, rfl⟩
    · have HE : Hid (Num.cmp a.data.toList b.data.toList = if a.size < b.size then -1 else if b.size < a.size then 1 else 0) := by
        have := HK.out.trans (Num.cmp_end _ _ k (by rw [len_s, len_s]; omega) (by rw [len_s]; omega) (by rw [len_s]; omega))
        rw [len_s, len_s] at this; exact this
      clear HK
      rcases Nat.lt_trichotomy a.size b.size with c | c | c
      · go_wp2
        go_ret
        exact ⟨ret_int (by rw [HE.out, if_pos c]), _, rfl⟩
      · have c1 : ¬ (a.size : Int) < (b.size : Int) := by omega
        have c2 : ¬ (b.size : Int) < (a.size : Int) := by omega
        have HC : Hid (a.size = b.size) := c
        clear c
        go_wp2
        go_ret
        exact ⟨ret_int (by rw [HE.out, if_neg (by have := HC.out; omega), if_neg (by have := HC.out; omega)]), _, rfl⟩
      · go_wp2
        go_ret
        exact ⟨ret_int (by rw [HE.out, if_neg (by omega), if_pos c]), _, rfl⟩

theorem sign_any (neg : Bool) (d : ByteArray) (w : World) :
    Calls Trym.prog 19 #[.bool neg, .string d] w fun e w' => e = .returned (.int .i64 (Num.sig neg d.data.toList)) ∧ w' = w := by
  by_cases h0 : d.size = 0
  · have hE := (empty_iff d).2 h0
    have HC : Hid (Num.sig neg d.data.toList = 0) := by show _ = _; unfold Num.sig; rw [if_pos (by rw [← Lib.toList_data]; exact hE)]
    go_enter Trym.func19, Trym.ntmps19
    go_wp2
    go_ret
    exact ⟨ret_int HC.out.symm, rfl⟩
  · have hE := empty_no d h0
    have HC : Hid (Num.sig neg d.data.toList = if neg then -1 else 1) := by show _ = _; unfold Num.sig; rw [if_neg (by rw [← Lib.toList_data, hE]; simp)]
    cases neg
    · go_enter Trym.func19, Trym.ntmps19
      go_wp2
      go_ret
      exact ⟨ret_int HC.out.symm, rfl⟩
    · go_enter Trym.func19, Trym.ntmps19
      go_wp2
      go_ret
      exact ⟨ret_int HC.out.symm, rfl⟩

theorem sig_bd (n : Bool) (d : List UInt8) : -1 ≤ Num.sig n d ∧ Num.sig n d ≤ 1 := by
  unfold Num.sig; split
  · omega
  · split <;> omega

set_option maxRecDepth 100000 in
set_option maxHeartbeats 1000000 in
theorem cmpv_any (n : Bool) (d : ByteArray) (x : Int) (n' : Bool) (d' : ByteArray) (x' : Int) (w : World) (hd : d.size ≤ 1048576) (hd' : d'.size ≤ 1048576) :
    Calls Trym.prog 16 #[.bool n, .string d, .int .i64 x, .bool n', .string d', .int .i64 x'] w fun e w' => e = .returned (.int .i64 (Num.cmpV n d.data.toList x n' d'.data.toList x')) ∧ ∃ m, w' = w.drewN m := by
  have HV : Hid (Num.cmpV n d.data.toList x n' d'.data.toList x' = if Num.sig n d.data.toList < Num.sig n' d'.data.toList then -1 else if Num.sig n' d'.data.toList < Num.sig n d.data.toList then 1 else if Num.sig n d.data.toList = 0 then 0
      else if Num.sig n d.data.toList < 0 then -(Num.mag d.data.toList x d'.data.toList x') else Num.mag d.data.toList x d'.data.toList x') := rfl
  have HM : Hid (Num.mag d.data.toList x d'.data.toList x' = if x < x' then -1 else if x' < x then 1 else Num.cmp d.data.toList d'.data.toList) := rfl
  have hcb := Num.cmp_bd d.data.toList d'.data.toList
  go_enter Trym.func16, Trym.ntmps16
  go_wp2_with fail
  refine (sign_any _ _ _).mono ?_
  rintro e w1 ⟨rfl, rfl⟩
  go_wp2_with fail
  refine (sign_any _ _ _).mono ?_
  rintro e w2 ⟨rfl, rfl⟩
  generalize Num.sig n d.data.toList = S at HV ⊢
  generalize Num.sig n' d'.data.toList = S' at HV ⊢
  by_cases h1 : S < S'
  · go_wp2
    go_ret
    exact ⟨ret_int (by rw [HV.out, if_pos h1]), 0, rfl⟩
  by_cases h2 : S' < S
  · go_wp2
    go_ret
    exact ⟨ret_int (by rw [HV.out, if_neg (by omega), if_pos h2]), 0, rfl⟩
  by_cases h3 : S = 0
  · have hb : (S == 0) = true := by simp [h3]
    have H3 : Hid (S = 0) := h3
    clear h3
    go_wp2
    go_ret
    exact ⟨ret_int (by rw [HV.out, if_neg (by omega), if_neg (by omega), if_pos H3.out]), 0, rfl⟩
  have hb : (S == 0) = false := by simp [h3]
  go_upto_if 32 with fail
  go_cut [15] (fun v wx => v = .int .i64 (Num.mag d.data.toList x d'.data.toList x') ∧ ∃ m, wx = w2.drewN m)
  case first =>
    by_cases g1 : x < x'
    · go_wp2
      go_meet
      case rel => exact ⟨by rw [HM.out, if_pos g1], 0, rfl⟩
    by_cases g2 : x' < x
    · go_wp2
      go_meet
      case rel => exact ⟨by rw [HM.out, if_neg (by omega), if_pos g2], 0, rfl⟩
    go_wp2_with (go_at_call 15; refine (cmps_any _ _ _ hd hd').mono ?_; rintro e w3 ⟨rfl, m, rfl⟩)
    go_meet
    case rel => exact ⟨by rw [HM.out, if_neg (by omega), if_neg (by omega)], _, rfl⟩
  case rest =>
  obtain ⟨rfl, m, rfl⟩ := hcut
  have hmb : -1 ≤ Num.mag d.data.toList x d'.data.toList x' ∧ Num.mag d.data.toList x d'.data.toList x' ≤ 1 := by
    rw [HM.out]; split
    · omega
    · split <;> omega
  by_cases h4 : S < 0
  · go_wp2
    go_ret
    exact ⟨ret_int (by rw [HV.out, if_neg (by omega), if_neg (by omega), if_neg h3, if_pos h4]), m, rfl⟩
  · go_wp2
    go_ret
    exact ⟨ret_int (by rw [HV.out, if_neg (by omega), if_neg (by omega), if_neg h3, if_neg (by omega)]), m, rfl⟩
end Go.Proofs.Qxb6003610aMods
