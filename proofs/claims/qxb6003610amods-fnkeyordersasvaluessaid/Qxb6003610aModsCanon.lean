/-
  THE WALK of zzCanonical.
-/
import Derived.Test.Qxb6003610aModsBase
import Derived.Test.Qxb6003610aModsPlainC
namespace Go.Proofs.Qxb6003610aMods
open Go.RowKit

theorem empty_iff (d : ByteArray) : d.toList.isEmpty = true ↔ d.size = 0 := by
  rw [Lib.toList_data, List.isEmpty_iff, ← List.length_eq_zero_iff, len_s]
theorem empty_no (d : ByteArray) (h : ¬ d.size = 0) : d.toList.isEmpty = false := by
  rw [Bool.eq_false_iff]; intro e; exact h ((empty_iff d).1 e)

theorem ret_bool {a b : Bool} (h : a = b) : Ending.returned (.bool a) = .returned (.bool b) := by rw [h]

set_option maxRecDepth 100000 in
set_option maxHeartbeats 1000000 in
theorem canon_any (neg : Bool) (d : ByteArray) (x : Int) (w : World) (hd : d.size ≤ 1048576) :
    Calls Trym.prog 10 #[.bool neg, .string d, .int .i64 x] w fun e w' => e = .returned (.bool (Num.canonB neg d.data.toList x)) ∧ w' = w := by
  by_cases h0 : d.size = 0
  · have hE := (empty_iff d).2 h0
    have HC : Hid (Num.canonB neg d.data.toList x = (!neg && x == 0)) := by show _ = _; unfold Num.canonB; rw [if_pos (by rw [← Lib.toList_data]; exact hE)]
    cases neg
    · go_enter Trym.func10, Trym.ntmps10
      go_wp2
      go_ret
      exact ⟨by rw [HC.out]; simp, rfl⟩
    · go_enter Trym.func10, Trym.ntmps10
      go_wp2
      go_ret
      exact ⟨by rw [HC.out]; simp, rfl⟩
  · have hE := empty_no d h0
    have HC : Hid (Num.canonB neg d.data.toList x = (d.data.toList.all Num.isD && (Num.cd d.data.toList 0 != 48 && Num.cd d.data.toList (d.data.toList.length - 1) != 48))) := by show _ = _; unfold Num.canonB; rw [if_neg (by rw [← Lib.toList_data, hE]; simp)]
    go_enter Trym.func10, Trym.ntmps10
    go_wp2_with fail
    go_loop [7] (fun i => ∃ k : Nat, k ≤ d.size ∧ i = .int .i64 k ∧ Hid (∀ j, j < k → Num.isD (d.data.toList.getD j 0) = true)) (fun i => d.size - (intOf i).toNat)
    case atStart => exact ⟨0, Nat.zero_le _, rfl, fun j hj => absurd hj (Nat.not_lt_zero _)⟩
    case round =>
      obtain ⟨k, hk, rfl, HK⟩ := hrel
      by_cases hlt : k < d.size
      · cases hD : Num.isD d[k]
        · have HF : Hid (Num.canonB neg d.data.toList x = false) := by
            show _ = _
            rw [HC.out]
            have : d.data.toList.all Num.isD = false := by
              rw [Bool.eq_false_iff]; intro h; rw [List.all_eq_true] at h
              have := h d[k] (by rw [← at_s d k hlt]; rw [List.getD_eq_getElem?_getD, List.getElem?_eq_getElem (by rw [len_s]; exact hlt)]; simp)
              rw [hD] at this; cases this
            rw [this]; rfl
          clear HC
          go_wp2_with (go_at_call 18; refine (isDigit_any _ _).mono ?_; rintro e w' ⟨rfl, rfl⟩)
          go_ret
          exact ⟨ret_bool HF.out.symm, rfl⟩
        · have HQ : Hid (Num.isD d[k] = true) := hD
          go_wp2_with (go_at_call 18; refine (isDigit_any _ _).mono ?_; rintro e w' ⟨rfl, rfl⟩)
          go_round
          case rel =>
            refine ⟨k + 1, by omega, by go_num, fun j hj => ?_⟩
            rcases Nat.lt_or_ge j k with c | c
            · exact HK j c
            · obtain rfl : j = k := by omega
              rw [at_s d j hlt]; exact HQ
          case measure => simp [intOf]; omega
      · have h00 : 0 < d.size := by omega
        have h11 : d.size - 1 < d.size := by omega
        have HA : Hid (Num.canonB neg d.data.toList x = (d[0].toNat != 48 && d[d.size - 1].toNat != 48)) := by
          show _ = _
          rw [HC.out, cd_s d 0 h00, len_s, cd_s d _ h11]
          have : d.data.toList.all Num.isD = true := by
            rw [List.all_eq_true]; intro c hc
            obtain ⟨j, hj, rfl⟩ := List.getElem_of_mem hc
            have := HK j (by rw [len_s] at hj; omega)
            rw [List.getD_eq_getElem?_getD, List.getElem?_eq_getElem hj] at this
            exact this
          rw [this]; rfl
        clear HC
        by_cases hf : d[0].toNat = 48
        · have hfb : ((d[0].toNat : Int) != 48) = false := by simp; omega
          go_wp2
          go_ret
          exact ⟨ret_bool (by rw [HA.out]; simp [hf]), rfl⟩
        · have hfb : ((d[0].toNat : Int) != 48) = true := by simp; omega
          go_wp2
          go_ret
          exact ⟨ret_bool (by rw [HA.out, Bool.eq_iff_iff]; simp; omega), rfl⟩
end Go.Proofs.Qxb6003610aMods
