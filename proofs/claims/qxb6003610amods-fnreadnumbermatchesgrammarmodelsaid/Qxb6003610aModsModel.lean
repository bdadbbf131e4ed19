/-
  THE WALK of zzModelRead: the grammar's model answers as the plain law says.
-/
import Derived.Test.Qxb6003610aModsBase
namespace Go.Proofs.Qxb6003610aMods
open Go.RowKit

set_option maxRecDepth 100000 in
set_option maxHeartbeats 4000000 in
theorem model_any (s : ByteArray) (w : World) (hs : s.size ≤ 1048576) :
    Calls Trym.prog 8 #[.string s] w fun e w' => ∃ n d x o, e = .returned (.tuple #[.bool n, .string d, .int .i64 x, .bool o]) ∧ Num.Says s.data.toList n d.data.toList x o ∧ ∃ m, w' = w.drewN m := by
  have L1 := Num.i1_le s.data.toList
  have L2 := Num.i2_le s.data.toList
  have L3 := Num.i3_le s.data.toList
  have L12 := Num.i12 s.data.toList
  have L23 := Num.i23 s.data.toList
  rw [len_s] at L1 L2 L3
  go_enter Trym.func8, Trym.ntmps8
  go_upto_region 3 with fail
  go_cut [33] (fun c wx => c = .bool (decide (Num.i1 s.data.toList = 1)) ∧ w = wx)
  case first =>
    as_aux_lemma =>
      by_cases h0 : 0 < s.size
      · by_cases h1 : s[0].toNat = 43
        · have h1' : ((s[0].toNat : Int) == 43) = true := by simp; omega
          go_wp2
          go_meet
          case rel => exact ⟨congrArg Value.bool (decide_eq_true (sg_yes s 0 h0 (.inl h1))).symm, rfl⟩
        · have h1' : ((s[0].toNat : Int) == 43) = false := by simp; omega
          by_cases h2 : s[0].toNat = 45
          · have h2' : ((s[0].toNat : Int) == 45) = true := by simp; omega
            go_wp2
            go_meet
            case rel => exact ⟨congrArg Value.bool (decide_eq_true (sg_yes s 0 h0 (.inr h2))).symm, rfl⟩
          · have h2' : ((s[0].toNat : Int) == 45) = false := by simp; omega
            go_wp2
            go_meet
            case rel => exact ⟨congrArg Value.bool (decide_eq_false (by have := sg_none s 0 h0 h1 h2; simp at this; unfold Num.i1; omega)).symm, rfl⟩
      · go_wp2
        go_meet
        case rel => exact ⟨congrArg Value.bool (decide_eq_false (by have := sg_past s 0 (by omega); simp at this; unfold Num.i1; omega)).symm, rfl⟩
  case rest =>
  obtain ⟨rfl, rfl⟩ := hcut
  go_upto_if 33 with fail
  go_cut [6, 7] (fun i n wx => i = .int .i64 (Num.i1 s.data.toList : Nat) ∧ n = .bool (Num.ng s.data.toList) ∧ w = wx)
  case first =>
    as_aux_lemma =>
      rcases sign_cases s 0 with ⟨h0, h1, h2⟩ | ⟨h1, h2, h3⟩
      · have e1 : Num.i1 s.data.toList = 1 := by simpa [Num.i1] using h2
        have e2 := ng_in s 0 h0
        have e3 : decide (Num.i1 s.data.toList = 1) = true := by simp [e1]
        have E1 : Hid (Num.i1 s.data.toList = 1) := e1
        have E2 : Hid (Num.ng (List.drop 0 s.data.toList) = ((s[0].toNat : Int) == 45)) := e2
        clear h2 e2 e1
        go_wp2
        go_meet
        case rel => exact ⟨by rw [E1.out]; rfl, congrArg Value.bool E2.out.symm, rfl⟩
      · have e1 : Num.i1 s.data.toList = 0 := by simpa [Num.i1] using h2
        have e3 : ¬ Num.i1 s.data.toList = 1 := by simp [e1]
        have E1 : Hid (Num.i1 s.data.toList = 0) := e1
        have E2 : Hid (Num.ng (List.drop 0 s.data.toList) = false) := h3
        clear h2 h1 e1 h3
        go_wp2
        go_meet
        case rel => exact ⟨by rw [E1.out]; rfl, congrArg Value.bool E2.out.symm, rfl⟩
  case rest =>
  obtain ⟨rfl, rfl, rfl⟩ := hcut
  go_upto_block 0 with fail
  go_cut [6] (fun i wx => i = .int .i64 (Num.i2 s.data.toList : Nat) ∧ w = wx)
  case first =>
    as_aux_lemma =>
      go_wp2_with fail
      go_loop [6] (fun i => ∃ k : Nat, Num.i1 s.data.toList ≤ k ∧ k ≤ Num.i2 s.data.toList ∧ i = .int .i64 k) (fun i => Num.i2 s.data.toList - (intOf i).toNat)
      case atStart => exact ⟨_, Nat.le_refl _, L12, rfl⟩
      case round =>
        obtain ⟨k, hk1, hk2, rfl⟩ := hrel
        by_cases hlt : k < Num.i2 s.data.toList
        · have hd := Num.int_dig s.data.toList k hk1 hlt
          rw [len_s] at hd
          obtain ⟨hd1, hd2⟩ := hd
          rw [at_s s k hd1] at hd2
          go_wp2_with (go_at_call 18; refine (isDigit_any _ _).mono ?_; rintro e w' ⟨rfl, rfl⟩)
          go_round
          case rel => exact ⟨k + 1, by omega, by omega, by go_num⟩
          case measure => simp [intOf]; omega
        · have hk3 : k = Num.i2 s.data.toList := by omega
          have HK : Hid (k = Num.i2 s.data.toList) := hk3
          by_cases hsz : k < s.size
          · have hd := Num.int_end s.data.toList (by rw [len_s, ← hk3]; exact hsz)
            rw [← hk3, at_s s k hsz] at hd
            clear hk3
            go_wp2_with (go_at_call 18; refine (isDigit_any _ _).mono ?_; rintro e w' ⟨rfl, rfl⟩)
            go_meet
            case rel => exact ⟨by rw [HK.out], rfl⟩
          · clear hk3
            go_wp2_with (go_at_call 18; refine (isDigit_any _ _).mono ?_; rintro e w' ⟨rfl, rfl⟩)
            go_meet
            case rel => exact ⟨by rw [HK.out], rfl⟩
  case rest =>
  obtain ⟨rfl, rfl⟩ := hcut
  go_upto_region 9 with fail
  go_cut [9] (fun v wx => (∃ I : ByteArray, v = .string I ∧ Hid (I.data.toList = Num.ip s.data.toList)) ∧ w = wx)
  case first =>
    go_wp2
    go_meet
    case rel => exact ⟨⟨_, rfl, by show _ = _; rw [Num.ip_cut, ext_l]⟩, rfl⟩
  case rest =>
  obtain ⟨⟨I, rfl, hI⟩, rfl⟩ := hcut
  go_upto_region 11 with fail
  go_cut [66] (fun c wx => c = .bool (Num.dot (Num.r1 s.data.toList)) ∧ w = wx)
  case first =>
    as_aux_lemma =>
      by_cases h0 : Num.i2 s.data.toList < s.size
      · have hd := Num.dot_at s.data.toList (Num.i2 s.data.toList) (by rw [len_s]; exact h0)
        rw [Num.r1_drop, cd_s s _ h0] at hd
        have HD : Hid (Num.dot (Num.r1 s.data.toList) = (s[Num.i2 s.data.toList].toNat == 46)) := hd
        clear hd
        go_wp2
        go_meet
        case rel => exact ⟨congrArg Value.bool (by rw [HD.out, Bool.eq_iff_iff]; simp; omega), rfl⟩
      · have hd := Num.dot_out s.data.toList (Num.i2 s.data.toList) (by rw [len_s]; omega)
        rw [Num.r1_drop] at hd
        have HD : Hid (Num.dot (Num.r1 s.data.toList) = false) := hd
        clear hd
        go_wp2
        go_meet
        case rel => exact ⟨congrArg Value.bool HD.out.symm, rfl⟩
  case rest =>
  obtain ⟨rfl, rfl⟩ := hcut
  go_upto_if 66 with fail
  go_cut [6, 10, 11] (fun i f q wx => i = .int .i64 (Num.i3 s.data.toList : Nat) ∧ (∃ F : ByteArray, f = .string F ∧ Hid (F.data.toList = Num.fp s.data.toList)) ∧ w = wx)
  case first =>
    as_aux_lemma =>
      cases hdot : Num.dot (Num.r1 s.data.toList)
      · have HD : Hid (Num.dot (Num.r1 s.data.toList) = false) := hdot
        go_wp2
        go_meet
        case rel => exact ⟨by rw [Num.i3_no _ HD.out], ⟨ByteArray.empty, rfl, by show _ = _; rw [Num.fp_no _ HD.out]; rfl⟩, rfl⟩
      · have HD : Hid (Num.dot (Num.r1 s.data.toList) = true) := hdot
        have h2 := Num.i2_dot s.data.toList hdot
        rw [len_s] at h2
        have h3 : Num.i2 s.data.toList + 1 ≤ Num.i3 s.data.toList := by rw [Num.i3_dot _ hdot]; omega
        go_wp2_with fail
        go_loop [6] (fun i => ∃ k : Nat, Num.i2 s.data.toList + 1 ≤ k ∧ k ≤ Num.i3 s.data.toList ∧ i = .int .i64 k) (fun i => Num.i3 s.data.toList - (intOf i).toNat)
        case atStart => exact ⟨_, Nat.le_refl _, h3, by go_num⟩
        case round =>
          obtain ⟨k, hk1, hk2, rfl⟩ := hrel
          by_cases hlt : k < Num.i3 s.data.toList
          · have hd := Num.fr_dig s.data.toList HD.out k hk1 hlt
            rw [len_s] at hd
            obtain ⟨hd1, hd2⟩ := hd
            rw [at_s s k hd1] at hd2
            go_wp2_with (go_at_call 18; refine (isDigit_any _ _).mono ?_; rintro e w' ⟨rfl, rfl⟩)
            go_round
            case rel => exact ⟨k + 1, by omega, by omega, by go_num⟩
            case measure => simp [intOf]; omega
          · have hk3 : k = Num.i3 s.data.toList := by omega
            have HK : Hid (k = Num.i3 s.data.toList) := hk3
            have HF : Hid ((s.extract (Num.i2 s.data.toList + 1) k).data.toList = Num.fp s.data.toList) := by
              show _ = _
              rw [Num.fp_cut _ HD.out, hk3, ext_l]
            by_cases hsz : k < s.size
            · have hd := Num.fr_end s.data.toList HD.out (by rw [len_s, ← hk3]; exact hsz)
              rw [← hk3, at_s s k hsz] at hd
              clear hk3
              go_wp2_with (go_at_call 18; refine (isDigit_any _ _).mono ?_; rintro e w' ⟨rfl, rfl⟩)
              go_meet
              case rel => exact ⟨by rw [HK.out], ⟨_, rfl, HF.out⟩, rfl⟩
            · clear hk3
              go_wp2_with (go_at_call 18; refine (isDigit_any _ _).mono ?_; rintro e w' ⟨rfl, rfl⟩)
              go_meet
              case rel => exact ⟨by rw [HK.out], ⟨_, rfl, HF.out⟩, rfl⟩
  case rest =>
  obtain ⟨rfl, ⟨F, rfl, hF⟩, rfl⟩ := hcut
  have sI : I.size ≤ 1048576 := by have := size_l I _ hI.out; have := Num.ip_len s.data.toList; omega
  have sF : F.size ≤ 1048576 := by
    have h1 := size_l F _ hF.out
    cases hd : Num.dot (Num.r1 s.data.toList)
    · rw [Num.fp_no _ hd] at h1; have : F.size = 0 := h1; omega
    · have := Num.i3_dot _ hd; omega
  by_cases hz : I.size + F.size = 0
  · have hzb : ((I.size : Int) + (F.size : Int) == 0) = true := by simp; omega
    have HV : Hid (Num.val s.data.toList = none) := Num.al_nil _ (by rw [← size_l I _ hI.out, ← size_l F _ hF.out]; exact hz)
    clear hz
    go_wp2
    as_aux_lemma =>
      refine bodyPost_ret (v := .tuple #[.bool false, .string ⟨#[]⟩, .int .i64 0, .bool false]) (by simp [results, Trym.results8, go_sem]) rfl ⟨_, _, _, _, rfl, .inl ⟨HV.out, rfl, rfl, rfl, rfl⟩, 0, rfl⟩
  have hzb : ((I.size : Int) + (F.size : Int) == 0) = false := by simp; omega
  have HV : Hid (Num.val s.data.toList = Num.ex (Num.r3 s.data.toList)) := Num.al_ne _ (by rw [← size_l I _ hI.out, ← size_l F _ hF.out]; exact hz)
  clear hz
  go_upto_region 20 with fail
  go_cut [107] (fun c wx => c = .bool (Num.isE (Num.r3 s.data.toList)) ∧ w = wx)
  case first =>
    as_aux_lemma =>
      by_cases h0 : Num.i3 s.data.toList < s.size
      · have hd := Num.isE_at s.data.toList (Num.i3 s.data.toList) (by rw [len_s]; exact h0)
        rw [Num.r3_drop, cd_s s _ h0] at hd
        have HD : Hid (Num.isE (Num.r3 s.data.toList) = (s[Num.i3 s.data.toList].toNat == 101 || s[Num.i3 s.data.toList].toNat == 69)) := hd
        clear hd
        by_cases h1 : s[Num.i3 s.data.toList].toNat = 101
        · have h1' : ((s[Num.i3 s.data.toList].toNat : Int) == 101) = true := by simp; omega
          go_wp2
          go_meet
          case rel => exact ⟨congrArg Value.bool (by rw [HD.out]; simp [h1]), rfl⟩
        · have h1' : ((s[Num.i3 s.data.toList].toNat : Int) == 101) = false := by simp; omega
          go_wp2
          go_meet
          case rel => exact ⟨congrArg Value.bool (by rw [HD.out, Bool.eq_iff_iff]; simp; omega), rfl⟩
      · have hd := Num.isE_out s.data.toList (Num.i3 s.data.toList) (by rw [len_s]; omega)
        rw [Num.r3_drop] at hd
        have HD : Hid (Num.isE (Num.r3 s.data.toList) = false) := hd
        clear hd
        go_wp2
        go_meet
        case rel => exact ⟨congrArg Value.bool HD.out.symm, rfl⟩
  case rest =>
  obtain ⟨rfl, rfl⟩ := hcut
  go_upto_if 107 with fail
  go_cut [6, 12, 13, 14] (fun i e p q wx => ∃ (k : Nat) (x : Int), i = .int .i64 k ∧ e = .int .i64 x ∧ k ≤ s.size ∧ -1000000000 ≤ x ∧ x ≤ 1000000000 ∧ Hid (k = s.size → Num.val s.data.toList = some x) ∧ Hid (k < s.size → Num.val s.data.toList = none) ∧ w = wx)
  case first =>
    cases hE : Num.isE (Num.r3 s.data.toList)
    · skip
      as_aux_lemma =>
        have HD : Hid (Num.isE (Num.r3 s.data.toList) = false) := hE
        go_wp2
        go_meet
        case rel =>
          refine ⟨_, _, rfl, rfl, L3, by decide, by decide, ?_, ?_, rfl⟩
          · intro h; rw [HV.out]; exact Num.ex_plain _ HD.out (by rw [len_s]; exact h)
          · intro h; rw [HV.out]; exact Num.ex_more _ HD.out (by rw [len_s]; exact h)
    · have h3E := Num.i3_E s.data.toList hE
      have h4E := Num.i4_le s.data.toList hE
      have h5E := Num.i5_le s.data.toList hE
      have h45 := Num.i45 s.data.toList
      rw [len_s] at h3E h4E h5E
      have HE : Hid (Num.isE (Num.r3 s.data.toList) = true) := hE
      go_upto_region 23 with fail
      go_cut [125] (fun c wx => c = .bool (decide (Num.sg (s.data.toList.drop (Num.i3 s.data.toList + 1)) = 1)) ∧ w = wx)
      case first =>
        as_aux_lemma =>
          by_cases h0 : Num.i3 s.data.toList + 1 < s.size
          · by_cases h1 : s[Num.i3 s.data.toList + 1].toNat = 43
            · have h1' : ((s[Num.i3 s.data.toList + 1].toNat : Int) == 43) = true := by simp; omega
              go_wp2
              go_meet
              case rel => exact ⟨congrArg Value.bool (decide_eq_true (sg_yes s _ h0 (.inl h1))).symm, rfl⟩
            · have h1' : ((s[Num.i3 s.data.toList + 1].toNat : Int) == 43) = false := by simp; omega
              by_cases h2 : s[Num.i3 s.data.toList + 1].toNat = 45
              · have h2' : ((s[Num.i3 s.data.toList + 1].toNat : Int) == 45) = true := by simp; omega
                go_wp2
                go_meet
                case rel => exact ⟨congrArg Value.bool (decide_eq_true (sg_yes s _ h0 (.inr h2))).symm, rfl⟩
              · have h2' : ((s[Num.i3 s.data.toList + 1].toNat : Int) == 45) = false := by simp; omega
                go_wp2
                go_meet
                case rel => exact ⟨congrArg Value.bool (decide_eq_false (by have := sg_none s _ h0 h1 h2; omega)).symm, rfl⟩
          · go_wp2
            go_meet
            case rel => exact ⟨congrArg Value.bool (decide_eq_false (by have := sg_past s (Num.i3 s.data.toList + 1) (by omega); omega)).symm, rfl⟩
      case rest =>
      obtain ⟨rfl, rfl⟩ := hcut
      go_upto_if 125 with fail
      go_cut [6, 13] (fun i n wx => i = .int .i64 (Num.i4 s.data.toList : Nat) ∧ n = .bool (Num.ng (s.data.toList.drop (Num.i3 s.data.toList + 1))) ∧ w = wx)
      case first =>
        as_aux_lemma =>
          rcases sign_cases s (Num.i3 s.data.toList + 1) with ⟨h0, h1, h2⟩ | ⟨h1, h2, h3⟩
          · have e2 := ng_in s _ h0
            have E1 : Hid (Num.i4 s.data.toList = Num.i3 s.data.toList + 1 + 1) := by show _ = _; unfold Num.i4; rw [h2]
            have E2 : Hid (Num.ng (List.drop (Num.i3 s.data.toList + 1) s.data.toList) = ((s[Num.i3 s.data.toList + 1].toNat : Int) == 45)) := e2
            clear e2
            go_wp2
            go_meet
            case rel => exact ⟨by rw [E1.out]; go_num, congrArg Value.bool E2.out.symm, rfl⟩
          · have E1 : Hid (Num.i4 s.data.toList = Num.i3 s.data.toList + 1) := by show _ = _; unfold Num.i4; rw [h2]
            have E2 : Hid (Num.ng (List.drop (Num.i3 s.data.toList + 1) s.data.toList) = false) := h3
            have e3 : ¬ Num.sg (List.drop (Num.i3 s.data.toList + 1) s.data.toList) = 1 := by rw [h2]; omega
            clear h2 h1 h3
            go_wp2
            go_meet
            case rel => exact ⟨by rw [E1.out]; go_num, congrArg Value.bool E2.out.symm, rfl⟩
      case rest =>
      obtain ⟨rfl, rfl, rfl⟩ := hcut
      go_upto_block 4 with fail
      go_cut [6, 12] (fun i e wx => i = .int .i64 (Num.i5 s.data.toList : Nat) ∧ e = .int .i64 (Num.exTo s.data.toList (Num.i5 s.data.toList)) ∧ w = wx)
      case first =>
        as_aux_lemma =>
          go_wp2_with fail
          go_loop [6, 12] (fun i e => ∃ k : Nat, Num.i4 s.data.toList ≤ k ∧ k ≤ Num.i5 s.data.toList ∧ i = .int .i64 k ∧ e = .int .i64 (Num.exTo s.data.toList k)) (fun i _ => Num.i5 s.data.toList - (intOf i).toNat)
          case atStart => exact ⟨_, Nat.le_refl _, h45, rfl, by rw [Num.exTo_start]⟩
          case round =>
            obtain ⟨k, hk1, hk2, rfl, rfl⟩ := hrel
            have hb := Num.exTo_bd s.data.toList k hk2
            by_cases hlt : k < Num.i5 s.data.toList
            · have hd := Num.ex_dig s.data.toList k hk1 hlt
              have hn := Num.exTo_next s.data.toList k hk1 hd.1
              rw [len_s] at hd
              obtain ⟨hd1, hd2⟩ := hd
              rw [at_s s k hd1] at hd2 hn
              have hd3 := (Num.isD_iff _).1 hd2
              unfold Num.stepE at hn
              have HN : Hid (Num.exTo s.data.toList (k + 1) = if Num.exTo s.data.toList k < 100000000 then Num.exTo s.data.toList k * 10 + ((s[k].toNat : Int) - 48) else Num.exTo s.data.toList k) := hn
              clear hn
              by_cases hbig : Num.exTo s.data.toList k < 100000000
              · go_wp2_with (go_at_call 18; refine (isDigit_any _ _).mono ?_; rintro e w' ⟨rfl, rfl⟩)
                go_round
                case rel => exact ⟨k + 1, by omega, by omega, by go_num, by rw [HN.out, if_pos hbig]⟩
                case measure => simp [intOf]; omega
              · go_wp2_with (go_at_call 18; refine (isDigit_any _ _).mono ?_; rintro e w' ⟨rfl, rfl⟩)
                go_round
                case rel => exact ⟨k + 1, by omega, by omega, by go_num, by rw [HN.out, if_neg (by omega)]⟩
                case measure => simp [intOf]; omega
            · have hk3 : k = Num.i5 s.data.toList := by omega
              have HK : Hid (k = Num.i5 s.data.toList) := hk3
              by_cases hsz : k < s.size
              · have hd := Num.ex_end s.data.toList (by rw [len_s, ← hk3]; exact hsz)
                rw [← hk3, at_s s k hsz] at hd
                clear hk3
                go_wp2_with (go_at_call 18; refine (isDigit_any _ _).mono ?_; rintro e w' ⟨rfl, rfl⟩)
                go_meet
                case rel => exact ⟨by rw [HK.out], by rw [HK.out], rfl⟩
              · clear hk3
                go_wp2_with (go_at_call 18; refine (isDigit_any _ _).mono ?_; rintro e w' ⟨rfl, rfl⟩)
                go_meet
                case rel => exact ⟨by rw [HK.out], by rw [HK.out], rfl⟩
      case rest =>
      obtain ⟨rfl, rfl, rfl⟩ := hcut
      as_aux_lemma =>
        by_cases he : Num.i5 s.data.toList = Num.i4 s.data.toList
        · have heb : ((Num.i5 s.data.toList : Int) == (Num.i4 s.data.toList : Int)) = true := by simp; omega
          have HX : Hid (Num.val s.data.toList = none) := by show _ = _; rw [HV.out]; exact Num.ex_empty _ HE.out he.symm
          clear he
          go_wp2
          refine bodyPost_ret (v := .tuple #[.bool false, .string ⟨#[]⟩, .int .i64 0, .bool false]) (by simp [results, Trym.results8, go_sem]) rfl ⟨_, _, _, _, rfl, .inl ⟨HX.out, rfl, rfl, rfl, rfl⟩, 0, rfl⟩
        · have heb : ((Num.i5 s.data.toList : Int) == (Num.i4 s.data.toList : Int)) = false := by simp; omega
          have hb := Num.exTo_bd s.data.toList (Num.i5 s.data.toList) (Nat.le_refl _)
          have HX : Hid (Num.i5 s.data.toList = s.size → Num.val s.data.toList = some (if Num.ng (s.data.toList.drop (Num.i3 s.data.toList + 1)) = true then -(Num.exTo s.data.toList (Num.i5 s.data.toList)) else Num.exTo s.data.toList (Num.i5 s.data.toList))) := by
            intro h; rw [HV.out]; exact Num.ex_whole _ HE.out (by omega) (by rw [len_s]; exact h)
          have HY : Hid (Num.i5 s.data.toList < s.size → Num.val s.data.toList = none) := by
            intro h; rw [HV.out]; exact Num.ex_stop _ HE.out (by rw [len_s]; exact h)
          clear he
          cases hn : Num.ng (s.data.toList.drop (Num.i3 s.data.toList + 1))
          · rw [hn] at HX
            go_wp2
            go_meet
            case rel => exact ⟨_, _, rfl, rfl, h5E, by omega, by omega, HX, HY, rfl⟩
          · rw [hn] at HX
            go_wp2
            go_meet
            case rel => exact ⟨_, _, rfl, rfl, h5E, by omega, by omega, HX, HY, rfl⟩
  case rest =>
  obtain ⟨k, x, rfl, rfl, hk, hx1, hx2, HX, HY, rfl⟩ := hcut
  as_aux_lemma =>
    by_cases hks : k = s.size
    case neg =>
      have hkb : ((k : Int) != (s.size : Int)) = true := by simp; omega
      have HN : Hid (Num.val s.data.toList = none) := HY (by omega)
      clear HX HY hks
      go_wp2
      refine bodyPost_ret (v := .tuple #[.bool false, .string ⟨#[]⟩, .int .i64 0, .bool false]) (by simp [results, Trym.results8, go_sem]) rfl ⟨_, _, _, _, rfl, .inl ⟨HN.out, rfl, rfl, rfl, rfl⟩, 0, rfl⟩
    case pos =>
    have hkb : ((k : Int) != (s.size : Int)) = false := by simp; omega
    have HKS : Hid (k = s.size) := hks
    clear hks
    go_upto_region 37 with fail
    go_cut [15] (fun v wx => (∃ A : ByteArray, v = .string A ∧ Hid (A.data.toList = Num.al s.data.toList)) ∧ w = wx)
    case first =>
      as_aux_lemma =>
        go_wp2
        go_meet
        case rel => exact ⟨⟨_, rfl, by show _ = _; simp [Num.al, hI.out, hF.out]⟩, rfl⟩
    case rest =>
    obtain ⟨⟨A, rfl, hA⟩, rfl⟩ := hcut
    have sA : A.size ≤ 2097152 := by
      have h1 := size_l A _ hA.out
      rw [Num.al_len, ← size_l I _ hI.out, ← size_l F _ hF.out] at h1
      omega
    go_upto_block 6 with fail
    go_cut [16] (fun v wx => (∃ z : Nat, v = .int .i64 z ∧ z ≤ A.size ∧ Hid (∀ j, j < z → Num.cd A.data.toList j = 48) ∧ Hid (z < A.size → Num.cd A.data.toList z ≠ 48)) ∧ w = wx)
    case first =>
      as_aux_lemma =>
        go_wp2_with fail
        go_loop [16] (fun i => ∃ z : Nat, z ≤ A.size ∧ i = .int .i64 z ∧ Hid (∀ j, j < z → Num.cd A.data.toList j = 48)) (fun i => A.size - (intOf i).toNat)
        case atStart => exact ⟨0, Nat.zero_le _, rfl, fun j hj => absurd hj (Nat.not_lt_zero _)⟩
        case round =>
          obtain ⟨z, hz, rfl, HZ⟩ := hrel
          by_cases hlt : z < A.size
          · by_cases h48 : A[z].toNat = 48
            · have h48' : ((A[z].toNat : Int) == 48) = true := by simp; omega
              have HQ : Hid (A[z].toNat = 48) := h48
              clear h48
              go_wp2
              go_round
              case rel =>
                refine ⟨z + 1, by omega, by go_num, fun j hj => ?_⟩
                rcases Nat.lt_or_ge j z with c | c
                · exact HZ j c
                · obtain rfl : j = z := by omega
                  rw [cd_s A j hlt]; exact HQ
              case measure => simp [intOf]; omega
            · have h48' : ((A[z].toNat : Int) == 48) = false := by simp; omega
              have HQ : Hid (¬ A[z].toNat = 48) := h48
              clear h48
              go_wp2
              go_meet
              case rel => exact ⟨⟨z, rfl, hz, HZ, fun _ => by rw [cd_s A z hlt]; exact HQ⟩, rfl⟩
          · go_wp2
            go_meet
            case rel => exact ⟨⟨z, rfl, hz, HZ, fun h => absurd h hlt⟩, rfl⟩
    case rest =>
    obtain ⟨⟨z, rfl, hzA, HZ, HZ2⟩, rfl⟩ := hcut
    have hks := HKS.out
    by_cases hze : z = A.size
    · skip
      as_aux_lemma =>
        have hzb : ((z : Int) == (A.size : Int)) = true := by simp; omega
        have HS : Hid (Num.Says s.data.toList false [] 0 true) := by
          refine .inr (.inl ⟨x, HX hks, rfl, fun j hj => ?_, rfl, rfl, rfl⟩)
          rw [← hA.out] at hj ⊢
          rw [len_s] at hj
          exact HZ.out j (by omega)
        clear hze hks
        go_wp2
        refine bodyPost_ret (v := .tuple #[.bool false, .string ⟨#[]⟩, .int .i64 0, .bool true]) (by simp [results, Trym.results8, go_sem]) rfl ⟨_, _, _, _, rfl, HS.out, 0, rfl⟩
    have hzb : ((z : Int) == (A.size : Int)) = false := by simp; omega
    have hzl : z < A.size := by omega
    clear hks
    as_aux_lemma =>
      have hz2 : Hid (Num.cd A.data.toList z ≠ 48) := HZ2 hzl
      clear HZ2
      go_wp2_with fail
      go_loop [17] (fun i => ∃ m : Nat, z ≤ m ∧ m < A.size ∧ i = .int .i64 m ∧ Hid (∀ j, m < j → j < A.size → Num.cd A.data.toList j = 48)) (fun i => (intOf i).toNat)
      case atStart => exact ⟨A.size - 1, by omega, by omega, by go_num, fun j h1 h2 => by omega⟩
      case round =>
        obtain ⟨m, hzm, hm, rfl, HM⟩ := hrel
        by_cases h48 : A[m].toNat = 48
        · have h48' : ((A[m].toNat : Int) == 48) = true := by simp; omega
          have HQ : Hid (Num.cd A.data.toList m = 48) := by show _ = _; rw [cd_s A m hm]; exact h48
          have hne : z < m := by
            rcases Nat.lt_or_ge z m with c | c
            · exact c
            · obtain rfl : z = m := by omega
              exact absurd HQ.out hz2.out
          clear h48
          go_wp2
          go_round
          case rel =>
            refine ⟨m - 1, by omega, by omega, by go_num, fun j h1 h2 => ?_⟩
            rcases Nat.lt_or_ge m j with c | c
            · exact HM.out j c h2
            · obtain rfl : j = m := by omega
              exact HQ.out
          case measure => simp [intOf]; omega
        · have h48' : ((A[m].toNat : Int) == 48) = false := by simp; omega
          have HQ : Hid (¬ Num.cd A.data.toList m = 48) := by show ¬ _; rw [cd_s A m hm]; exact h48
          have HS : Hid (Num.Says s.data.toList (Num.ng s.data.toList) (A.extract z (m + 1)).data.toList (x + (I.size : Int) - (z : Int) - 1) true) := by
            refine .inr (.inr ⟨x, z, m, HX HKS.out, rfl, ?_, rfl, ?_, ?_⟩)
            · rw [← hA.out]
              exact ⟨hzm, by rw [len_s]; exact hm, hz2.out, HQ.out, HZ.out, fun j h1 h2 => HM.out j h1 (by rw [len_s] at h2; exact h2)⟩
            · rw [← hA.out, ext_l]
            · rw [← size_l I _ hI.out]
          clear h48
          go_wp2
          go_quiet (fail)
          go_wp2
          exact bodyPost_ret (v := .tuple #[.bool (Num.ng s.data.toList), .string (A.extract z (m + 1)), .int .i64 (x + (I.size : Int) - (z : Int) - 1), .bool true]) (by simp [results, Trym.results8, go_sem]) rfl ⟨_, _, _, _, rfl, HS.out, nq, rfl⟩
end Go.Proofs.Qxb6003610aMods
