/-
  THE WALKS of wellFormedRequestID, zzAlphabetCount and zzModelRequestID.
-/
import Derived.Test.Qxb6605518aModsRows
import Derived.Test.Qxb6605518aModsPlain
import Derived.WalkKit
import Derived.WalkSpells
import Derived.WalkLawsBesides
import Derived.Deep.DeepCutAuto
import Derived.Deep.CutBlock
import Derived.Lib.Strings
import Derived.Lib.ConvBytes
namespace Go.Proofs.Qxb6605518aMods
open Go.RowKit

theorem at_s (s : ByteArray) (k : Nat) (h : k < s.size) : s.data.toList.getD k 0 = s[k] := by
  have h' : k < s.data.toList.length := by simpa using h
  rw [List.getD_eq_getElem?_getD, List.getElem?_eq_getElem h']
  rfl
theorem len_s (s : ByteArray) : s.data.toList.length = s.size := by simp
theorem ret_int {a b : Int} (h : a = b) : Ending.returned (.int .i64 a) = .returned (.int .i64 b) := by rw [h]
theorem ret_bool {a b : Bool} (h : a = b) : Ending.returned (.bool a) = .returned (.bool b) := by rw [h]

set_option maxRecDepth 100000 in
set_option maxHeartbeats 400000 in
theorem count_any (s : ByteArray) (w : World) (hs : s.size ≤ 1048576) :
    Calls Trym.prog 21 #[.string s] w fun e w' => e = .returned (.int .i64 (Rid.cnt Rid.alph s.data.toList)) ∧ w' = w := by
  go_enter Trym.func21, Trym.ntmps21
  go_wp2_with fail
  go_loop [3, 4] (fun n a => ∃ k : Nat, k ≤ 65 ∧ a = .int .i64 k ∧ n = .int .i64 (Rid.cntTo s.data.toList k : Nat)) (fun _ a => 65 - (intOf a).toNat)
  case atStart => exact ⟨0, by omega, rfl, rfl⟩
  case round =>
    obtain ⟨k, hk, rfl, rfl⟩ := hrel
    have hb := Rid.cntTo_le s.data.toList k
    rw [len_s] at hb
    by_cases hlt : k < 65
    · have hki : (k : Int) < 65 := by omega
      go_upto_region 5 with fail
      go_cut [5] (fun v wx => (∃ c : UInt8, v = .int .u8 c.toNat ∧ Hid (c = Rid.alph.getD k 0)) ∧ w = wx)
      case first =>
        go_wp2
        go_meet
        case rel => exact ⟨⟨_, rfl, (at_s ⟨Rid.alph.toArray⟩ k (by show k < Rid.alph.toArray.size; rw [List.size_toArray, Rid.alph_len]; exact hlt)).symm⟩, rfl⟩
      case rest =>
      obtain ⟨⟨c, rfl, HC⟩, rfl⟩ := hcut
      have HN : Hid (Rid.cntTo s.data.toList (k + 1) = Rid.cntTo s.data.toList k + s.data.toList.count c) := by show _ = _; rw [Rid.cntTo_next _ k hlt, HC.out]
      clear HC
      go_wp2_with fail
      go_loop [3, 6] (fun n i => ∃ j : Nat, j ≤ s.size ∧ i = .int .i64 j ∧ n = .int .i64 (Rid.cntTo s.data.toList k + (s.data.toList.take j).count c : Nat)) (fun _ i => s.size - (intOf i).toNat)
      case atStart => exact ⟨0, Nat.zero_le _, rfl, by simp⟩
      case round =>
        obtain ⟨j, hj, rfl, rfl⟩ := hrel
        have hcb : (s.data.toList.take j).count c ≤ j := Nat.le_trans List.count_le_length (by rw [List.length_take]; omega)
        by_cases hjl : j < s.size
        · have hn := Rid.count_next s.data.toList c j (by rw [len_s]; exact hjl)
          rw [at_s s j hjl] at hn
          have HJ : Hid ((s.data.toList.take (j + 1)).count c = (s.data.toList.take j).count c + if s[j] = c then 1 else 0) := hn
          clear hn
          by_cases he : s[j] = c
          · have hb1 : ((s[j].toNat : Int) == (c.toNat : Int)) = true := by simp [he]
            have HH : Hid (s[j] = c) := he
            clear he
            go_wp2
            go_round
            case rel => exact ⟨j + 1, by omega, by go_num, by rw [HJ.out, if_pos HH.out]; go_num⟩
            case measure => simp [intOf]; omega
          · have hb1 : ((s[j].toNat : Int) == (c.toNat : Int)) = false := by
              rw [beq_eq_false_iff_ne]; intro h; exact he (UInt8.toNat_inj.1 (by omega))
            have HH : Hid (¬ s[j] = c) := he
            clear he
            go_wp2
            go_round
            case rel => exact ⟨j + 1, by omega, by go_num, by rw [HJ.out, if_neg HH.out]; rfl⟩
            case measure => simp [intOf]; omega
        · have HT : Hid (s.data.toList.take j = s.data.toList) := List.take_of_length_le (by rw [len_s]; omega)
          go_wp2
          go_round
          case rel => exact ⟨k + 1, by omega, by go_num, by rw [HN.out, HT.out]⟩
          case measure => simp [intOf]; omega
    · have HE : Hid (Rid.cntTo s.data.toList k = Rid.cnt Rid.alph s.data.toList) := Rid.cntTo_all _ k (by omega)
      go_wp2
      go_ret
      exact ⟨ret_int (by rw [HE.out]), rfl⟩

theorem beq_cast (q n : Nat) : ((q : Int) == (n : Int)) = decide (q = n) := by rw [Bool.eq_iff_iff, beq_iff_eq, decide_eq_true_iff]; omega
theorem empty_iff (d : ByteArray) : d.toList.isEmpty = true ↔ d.size = 0 := by
  rw [Lib.toList_data, List.isEmpty_iff, ← List.length_eq_zero_iff, len_s]
theorem empty_no (d : ByteArray) (h : ¬ d.size = 0) : d.toList.isEmpty = false := by
  rw [Bool.eq_false_iff]; intro e; exact h ((empty_iff d).1 e)

theorem bytesWorld_below (w : World) (s : ByteArray) : Below w.heap.size w (Lib.bytesWorld w 5 s) :=
  ⟨rfl, rfl, rfl, by rw [Lib.bytesWorld_size]; omega, fun k hk => Lib.bytesWorld_at_old w 5 s k hk⟩

set_option maxRecDepth 100000 in
set_option maxHeartbeats 2000000 in
theorem wf_any (s : ByteArray) (w : World) (hs : s.size ≤ 1048576) :
    Calls Trym.prog 20 #[.string s] w fun e w' => e = .returned (.bool (Rid.wf s.data.toList)) ∧ Below w.heap.size w w' := by
  have HW : Hid (Rid.wf s.data.toList = (decide (1 ≤ s.size) && (decide (s.size ≤ 100) && s.data.toList.all Rid.ok))) := by show _ = _; unfold Rid.wf; rw [len_s]
  by_cases h0 : s.size = 0
  · have hE := (empty_iff s).2 h0
    go_enter Trym.func20, Trym.ntmps20
    go_wp2
    go_ret
    exact ⟨ret_bool (by rw [HW.out]; simp [h0]), Below.refl _ _⟩
  have hE := empty_no s h0
  by_cases h1 : 100 < s.size
  · have h1i : (100 : Int) < (s.size : Int) := by omega
    go_enter Trym.func20, Trym.ntmps20
    go_wp2
    go_ret
    exact ⟨ret_bool (by rw [HW.out]; simp; omega), Below.refl _ _⟩
  have h1i : ¬ (100 : Int) < (s.size : Int) := by omega
  have HW2 : Hid (Rid.wf s.data.toList = s.data.toList.all Rid.ok) := by
    show _ = _; rw [HW.out, decide_eq_true (show 1 ≤ s.size by omega), decide_eq_true (show s.size ≤ 100 by omega), Bool.true_and, Bool.true_and]
  clear HW
  have hcv := fun wx => Lib.run_convert_string_bytes (P := Trym.prog) wx 9 34 5 s Trym.underlying9 Trym.underlying34 Trym.underlying5
  go_enter Trym.func20, Trym.ntmps20
  go_wp2_with fail
  clear hcv
  go_loop [15] (fun i => ∃ k : Nat, k ≤ s.size ∧ i = .int .i64 k ∧ Hid (∀ j, j < k → Rid.ok (s.data.toList.getD j 0) = true)) (fun i => s.size - (intOf i).toNat)
  case atStart => exact ⟨0, Nat.zero_le _, rfl, fun j hj => absurd hj (Nat.not_lt_zero _)⟩
  case round =>
    obtain ⟨k, hk, rfl, HK⟩ := hrel
    by_cases hlt : k < s.size
    · have hki : (k : Int) < (s.size : Int) := by omega
      have hc : (Lib.bytesWorld w 5 s).cell? ⟨w.heap.size, k, none⟩ = some (.int .u8 (s[k].toNat : Int)) := by
        rw [Lib.bytesWorld_cell w 5 s k hlt, at_s s k hlt]
      by_cases hok : Rid.ok s[k] = true
      · have hcase : (97 ≤ (s[k].toNat : Int) ∧ (s[k].toNat : Int) ≤ 122) ∨ (65 ≤ (s[k].toNat : Int) ∧ (s[k].toNat : Int) ≤ 90) ∨ (48 ≤ (s[k].toNat : Int) ∧ (s[k].toNat : Int) ≤ 57) ∨ (s[k].toNat : Int) = 46 ∨ (s[k].toNat : Int) = 95 ∨ (s[k].toNat : Int) = 45 := by
          simp [Rid.ok, Rid.okN] at hok; omega
        have HN : Hid (∀ j, j < k + 1 → Rid.ok (s.data.toList.getD j 0) = true) := by
          intro j hj
          rcases Nat.lt_or_ge j k with c | c
          · exact HK j c
          · obtain rfl : j = k := by omega
            rw [at_s s j hlt]; exact hok
        clear hok HK
        generalize (s[k].toNat : Int) = n at hc hcase
        rcases hcase with ⟨g1, g2⟩ | ⟨g1, g2⟩ | ⟨g1, g2⟩ | rfl | rfl | rfl
        all_goals
          go_wp2
          go_round
          case rel => exact ⟨k + 1, by omega, by go_num, HN⟩
          case measure => simp [intOf]; omega
      · have hcase : 123 ≤ (s[k].toNat : Int) ∨ (0 ≤ (s[k].toNat : Int) ∧ (s[k].toNat : Int) ≤ 44) ∨ (s[k].toNat : Int) = 47 ∨ (58 ≤ (s[k].toNat : Int) ∧ (s[k].toNat : Int) ≤ 64) ∨ (91 ≤ (s[k].toNat : Int) ∧ (s[k].toNat : Int) ≤ 94) ∨ (s[k].toNat : Int) = 96 := by
          simp [Rid.ok, Rid.okN] at hok; omega
        have HF : Hid (Rid.wf s.data.toList = false) := by
          show _ = _
          rw [HW2.out, Bool.eq_false_iff]; intro h; rw [List.all_eq_true] at h
          exact hok (h s[k] (by rw [← at_s s k hlt, List.getD_eq_getElem?_getD, List.getElem?_eq_getElem (by rw [len_s]; exact hlt)]; simp))
        clear hok HK HW2
        generalize (s[k].toNat : Int) = n at hc hcase
        rcases hcase with g1 | hcase
        · have q1 : decide (n ≤ 122) = false := by simp; omega
          have q2 : decide (n ≤ 90) = false := by simp; omega
          have q3 : decide (n ≤ 57) = false := by simp; omega
          have q4 : (n == 46) = false := by simp; omega
          have q5 : (n == 95) = false := by simp; omega
          have q6 : (n == 45) = false := by simp; omega
          go_wp2
          go_ret
          exact ⟨ret_bool HF.out.symm, bytesWorld_below w s⟩
        rcases hcase with ⟨g1, g2⟩ | rfl | ⟨g1, g2⟩ | ⟨g1, g2⟩ | rfl
        · have q4 : (n == 46) = false := by simp; omega
          have q5 : (n == 95) = false := by simp; omega
          have q6 : (n == 45) = false := by simp; omega
          go_wp2
          go_ret
          exact ⟨ret_bool HF.out.symm, bytesWorld_below w s⟩
        · go_wp2
          go_ret
          exact ⟨ret_bool HF.out.symm, bytesWorld_below w s⟩
        · have q3 : decide (n ≤ 57) = false := by simp; omega
          have q4 : (n == 46) = false := by simp; omega
          have q5 : (n == 95) = false := by simp; omega
          have q6 : (n == 45) = false := by simp; omega
          go_wp2
          go_ret
          exact ⟨ret_bool HF.out.symm, bytesWorld_below w s⟩
        · have q2 : decide (n ≤ 90) = false := by simp; omega
          have q3 : decide (n ≤ 57) = false := by simp; omega
          have q4 : (n == 46) = false := by simp; omega
          have q5 : (n == 95) = false := by simp; omega
          have q6 : (n == 45) = false := by simp; omega
          go_wp2
          go_ret
          exact ⟨ret_bool HF.out.symm, bytesWorld_below w s⟩
        · go_wp2
          go_ret
          exact ⟨ret_bool HF.out.symm, bytesWorld_below w s⟩
    · have HT : Hid (Rid.wf s.data.toList = true) := by
        show _ = _
        rw [HW2.out, List.all_eq_true]; intro c hc
        obtain ⟨j, hj, rfl⟩ := List.getElem_of_mem hc
        have := HK j (by rw [len_s] at hj; omega)
        rw [List.getD_eq_getElem?_getD, List.getElem?_eq_getElem hj] at this
        exact this
      clear HW2 HK
      go_wp2
      go_ret
      exact ⟨ret_bool HT.out.symm, bytesWorld_below w s⟩

set_option maxRecDepth 100000 in
theorem zzwf_any (s : ByteArray) (w : World) (hs : s.size ≤ 1048576) :
    Calls Trym.prog 9 #[.string s] w fun e w' => e = .returned (.bool (Rid.wf s.data.toList)) ∧ Below w.heap.size w w' := by
  go_enter Trym.func9, Trym.ntmps9
  go_wp2_with fail
  refine (wf_any s _ hs).mono ?_
  rintro e w1 ⟨rfl, hb⟩
  go_wp2
  go_ret
  exact ⟨rfl, hb⟩

set_option maxRecDepth 100000 in
set_option maxHeartbeats 400000 in
theorem model_any (s : ByteArray) (w : World) (hs : s.size ≤ 1048576) :
    Calls Trym.prog 10 #[.string s] w fun e w' => e = .returned (.bool (Rid.wf s.data.toList)) ∧ w' = w := by
  have HM : Hid (Rid.wf s.data.toList = (decide (1 ≤ s.size) && (decide (s.size ≤ 100) && decide (Rid.cnt Rid.alph s.data.toList = s.size)))) := by
    show _ = _; rw [← Rid.model_wf]; unfold Rid.modelB; rw [len_s]
  by_cases h0 : s.size = 0
  · have h0i : (s.size : Int) < 1 := by omega
    go_enter Trym.func10, Trym.ntmps10
    go_wp2
    go_ret
    exact ⟨ret_bool (by rw [HM.out]; simp [h0]), rfl⟩
  by_cases h1 : 100 < s.size
  · have h1i : (100 : Int) < (s.size : Int) := by omega
    go_enter Trym.func10, Trym.ntmps10
    go_wp2
    go_ret
    exact ⟨ret_bool (by rw [HM.out]; simp; omega), rfl⟩
  have HM2 : Hid (Rid.wf s.data.toList = decide (Rid.cnt Rid.alph s.data.toList = s.size)) := by
    show _ = _; rw [HM.out, decide_eq_true (show 1 ≤ s.size by omega), decide_eq_true (show s.size ≤ 100 by omega), Bool.true_and, Bool.true_and]
  clear HM
  go_enter Trym.func10, Trym.ntmps10
  go_wp2_with (go_at_call 21; refine (count_any _ _ hs).mono ?_; rintro e w1 ⟨rfl, rfl⟩)
  go_ret
  exact ⟨ret_bool ((beq_cast _ _).trans HM2.out.symm), rfl⟩
end Go.Proofs.Qxb6605518aMods
