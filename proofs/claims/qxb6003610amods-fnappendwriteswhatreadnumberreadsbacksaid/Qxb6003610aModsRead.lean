/-
  THE WALK of readNumber: it answers as the plain law says.
-/
import Derived.Test.Qxb6003610aModsBase
import Derived.Test.Qxb6003610aModsPlainB
namespace Go.Proofs.Qxb6003610aMods
open Go.RowKit

/-- What readNumber leaves: an answer as the plain law says; one new block, some draws. -/
def ReadPost (s : ByteArray) (w : World) (e : Ending) (w' : World) : Prop :=
  ∃ n d x o, e = .returned (.tuple #[.agg #[.bool n, .string d, .int .i64 x], .bool o]) ∧ Num.Says s.data.toList n d.data.toList x o ∧ ∃ c m, w' = (w.alloc (.cells c 24)).drewN m
theorem ReadPost.mk {s : ByteArray} {w w' : World} {n : Bool} {d : ByteArray} {x : Int} {o : Bool} (h : Num.Says s.data.toList n d.data.toList x o) (c : Array Value) (m : Nat) (hw : w' = (w.alloc (.cells c 24)).drewN m) :
    ReadPost s w (.returned (.tuple #[.agg #[.bool n, .string d, .int .i64 x], .bool o])) w' := ⟨n, d, x, o, rfl, h, c, m, hw⟩

set_option maxRecDepth 100000 in
set_option maxHeartbeats 4000000 in
theorem read_any (s : ByteArray) (w : World) (hs : s.size ≤ 1048576) :
    Calls Trym.prog 17 #[.string s] w fun e w' => ReadPost s w e w' := by
  have L1 := Num.i1_le s.data.toList
  have L2 := Num.i2_le s.data.toList
  have L3 := Num.i3_le s.data.toList
  have L12 := Num.i12 s.data.toList
  have L23 := Num.i23 s.data.toList
  rw [len_s] at L1 L2 L3
  go_enter Trym.func17, Trym.ntmps17
  go_upto_region 2 with fail
  go_cut [29] (fun c wx => c = .bool (decide (Num.i1 s.data.toList = 1)) ∧ wx = w.alloc (.cells #[.bool false, .string ⟨#[]⟩, .int .i64 0] 24))
  case first =>
    as_aux_lemma =>
      by_cases h0 : 0 < s.size
      · by_cases h1 : s[0].toNat = 43
        · have h1' : ((s[0].toNat : Int) == 43) = true := by simp; omega
          go_wp2
          go_meet
          case rel => exact ⟨congrArg Value.bool (decide_eq_true (sg_yes s _ h0 (.inl h1))).symm, rfl⟩
        · have h1' : ((s[0].toNat : Int) == 43) = false := by simp; omega
          by_cases h2 : s[0].toNat = 45
          · have h2' : ((s[0].toNat : Int) == 45) = true := by simp; omega
            go_wp2
            go_meet
            case rel => exact ⟨congrArg Value.bool (decide_eq_true (sg_yes s _ h0 (.inr h2))).symm, rfl⟩
          · have h2' : ((s[0].toNat : Int) == 45) = false := by simp; omega
            go_wp2
            go_meet
            case rel => exact ⟨congrArg Value.bool (decide_eq_false (by have := sg_none s _ h0 h1 h2; simp at this; unfold Num.i1; omega)).symm, rfl⟩
      · go_wp2
        go_meet
        case rel => exact ⟨congrArg Value.bool (decide_eq_false (by have := sg_past s (0) (by omega); simp at this; unfold Num.i1; omega)).symm, rfl⟩
  case rest =>
  obtain ⟨rfl, rfl⟩ := hcut
  go_upto_if 29 with fail
  go_cut [4] (fun i wx => i = .int .i64 (Num.i1 s.data.toList : Nat) ∧ wx = w.alloc (.cells #[.bool (Num.ng s.data.toList), .string ⟨#[]⟩, .int .i64 0] 24))
  case first =>
    as_aux_lemma =>
      rcases sign_cases s 0 with ⟨h0, h1, h2⟩ | ⟨h1, h2, h3⟩
      · have e1 : Num.i1 s.data.toList = 1 := by simpa [Num.i1] using h2
        have e2 := ng_in s 0 h0
        have e3 : Num.i1 s.data.toList = 1 := by simp [e1]
        have E1 : Hid (Num.i1 s.data.toList = 1) := e1
        have E2 : Hid (Num.ng (List.drop 0 s.data.toList) = ((s[0].toNat : Int) == 45)) := e2
        clear h2 e2 e1
        go_wp2
        go_meet
        case rel => 
          exact ⟨by rw [E1.out]; rfl, by have := E2.out; simp at this; rw [this]⟩
      · have e1 : Num.i1 s.data.toList = 0 := by simpa [Num.i1] using h2
        have e3 : ¬ Num.i1 s.data.toList = 1 := by simp [e1]
        have E1 : Hid (Num.i1 s.data.toList = 0) := e1
        have E2 : Hid (Num.ng (List.drop 0 s.data.toList) = false) := h3
        clear h2 h1 e1 h3
        go_wp2
        go_meet
        case rel => exact ⟨by rw [E1.out]; rfl, by have := E2.out; simp at this; rw [this]⟩
  case rest =>
  obtain ⟨rfl, rfl⟩ := hcut
  as_aux_lemma =>
    go_upto_block 0 with fail
    go_cut [4, 6, 7, 8, 9] (fun vi vp vf vt vc wx => ∃ f t : Int, vi = .int .i64 (Num.i3 s.data.toList : Nat) ∧ vp = .int .i64 (Num.pt s.data.toList) ∧ vf = .int .i64 f ∧ vt = .int .i64 t ∧ Hid (Num.FL s.data.toList (Num.i3 s.data.toList) f t) ∧ wx = w.alloc (.cells #[.bool (Num.ng s.data.toList), .string ⟨#[]⟩, .int .i64 0] 24))
    case first =>
      as_aux_lemma =>
        go_wp2_with fail
        go_loop [4, 6, 7, 8] (fun vi vp vf vt => ∃ (k : Nat) (p f t : Int), Num.i1 s.data.toList ≤ k ∧ k ≤ Num.i3 s.data.toList ∧ vi = .int .i64 k ∧ vp = .int .i64 p ∧ vf = .int .i64 f ∧ vt = .int .i64 t ∧ Hid (Num.PT s.data.toList k p) ∧ Hid (Num.FL s.data.toList k f t)) (fun vi _ _ _ => Num.i3 s.data.toList - (intOf vi).toNat)
        case atStart => exact ⟨_, -1, -1, -1, Nat.le_refl _, by omega, rfl, rfl, rfl, rfl, Num.PT.start _, Num.FL.start _⟩
        case round =>
          obtain ⟨k, p, f, t, hk1, hk2, rfl, rfl, rfl, rfl, hP, hF⟩ := hrel
          rcases Num.place s.data.toList k p hk1 hk2 hP.out with ⟨hdp, hP1, hk3⟩ | ⟨hk2, hdot, hp, hkl, hc, hk3, hP1⟩ | ⟨hk3, hp, hend⟩
          · skip
            as_aux_lemma =>
              have hd := Num.dp_isD s.data.toList k hdp
              rw [len_s] at hd
              obtain ⟨hd1, hd2⟩ := hd
              rw [at_s s k hd1, Num.isD_iff] at hd2
              have hc1 : (48 : Int) ≤ (s[k].toNat : Int) := by omega
              have hc2 : (s[k].toNat : Int) ≤ 57 := by omega
              have HC := cd_s s k hd1
              have HCD : Hid (Num.cd s.data.toList k = s[k].toNat) := HC
              clear hd2 HC
              by_cases h48 : s[k].toNat = 48
              · have hb : ((s[k].toNat : Int) != 48) = false := by simp; omega
                have HN : Hid (Num.FL s.data.toList (k + 1) f t) := hF.out.zero hdp (by rw [HCD.out]; exact h48)
                clear h48 HCD hdp
                go_wp2
                go_round
                case rel => exact ⟨k + 1, p, f, t, by omega, by omega, by go_num, rfl, rfl, rfl, hP1, HN⟩
                case measure => simp [intOf]; omega
              · have hb : ((s[k].toNat : Int) != 48) = true := by simp; omega
                by_cases hf : f < 0
                · have HN : Hid (Num.FL s.data.toList (k + 1) k k) := hF.out.first hdp (by rw [HCD.out]; exact h48) hf
                  clear h48 HCD hdp
                  go_wp2
                  go_round
                  case rel => exact ⟨k + 1, p, k, k, by omega, by omega, by go_num, rfl, rfl, rfl, hP1, HN⟩
                  case measure => simp [intOf]; omega
                · have HN : Hid (Num.FL s.data.toList (k + 1) f k) := hF.out.later hdp (by rw [HCD.out]; exact h48) hf
                  clear h48 HCD hdp
                  go_wp2
                  go_round
                  case rel => exact ⟨k + 1, p, f, k, by omega, by omega, by go_num, rfl, rfl, rfl, hP1, HN⟩
                  case measure => simp [intOf]; omega
          · skip
            as_aux_lemma =>
              have hk1 : k < s.size := by rw [len_s] at hkl; exact hkl
              rw [cd_s s k hk1] at hc
              have hcb : ((s[k].toNat : Int) == 46) = true := by simp; omega
              have HN : Hid (Num.FL s.data.toList (k + 1) f t) := by
                have h := hF.out
                rw [hk2] at h ⊢
                exact h.dot
              have HPN : Hid (Num.PT s.data.toList (k + 1) (k : Nat)) := hP1
              clear hk2 hdot hc hkl hP1
              subst hp
              go_wp2
              go_round
              case rel => exact ⟨k + 1, k, f, t, by omega, by omega, by go_num, rfl, rfl, rfl, HPN, HN⟩
              case measure => simp [intOf]; omega
          · skip
            as_aux_lemma =>
              have HK : Hid (k = Num.i3 s.data.toList) := hk3
              have HE : Hid (k < s.data.toList.length → Num.isD (s.data.toList.getD k 0) = false ∧ (Num.cd s.data.toList k ≠ 46 ∨ ¬ p < 0)) := hend
              have HP : Hid (p = Num.pt s.data.toList) := hp
              clear hk3 hend hp
              by_cases hsz : k < s.size
              · have he := HE.out (by rw [len_s]; exact hsz)
                rw [at_s s k hsz, cd_s s k hsz, Num.isD_no] at he
                obtain ⟨he1, he2⟩ := he
                by_cases h46 : s[k].toNat = 46
                · have hb : ((s[k].toNat : Int) == 46) = true := by simp; omega
                  have hp0 : ¬ p < 0 := by omega
                  have hc : (s[k].toNat : Int) < 48 := by omega
                  clear he1 he2 h46
                  go_wp2
                  go_meet
                  case rel => exact ⟨f, t, by rw [HK.out], by rw [HP.out], rfl, rfl, by have h := hF.out; rw [HK.out] at h; exact h, rfl⟩
                · have hb : ((s[k].toNat : Int) == 46) = false := by simp; omega
                  by_cases hc : (s[k].toNat : Int) < 48
                  · clear he1 he2 h46
                    go_wp2
                    go_meet
                    case rel => exact ⟨f, t, by rw [HK.out], by rw [HP.out], rfl, rfl, by have h := hF.out; rw [HK.out] at h; exact h, rfl⟩
                  · have hc2 : (57 : Int) < (s[k].toNat : Int) := by omega
                    clear he1 he2 h46
                    go_wp2
                    go_meet
                    case rel => exact ⟨f, t, by rw [HK.out], by rw [HP.out], rfl, rfl, by have h := hF.out; rw [HK.out] at h; exact h, rfl⟩
              · go_wp2
                go_meet
                case rel => exact ⟨f, t, by rw [HK.out], by rw [HP.out], rfl, rfl, by have h := hF.out; rw [HK.out] at h; exact h, rfl⟩
    case rest =>
    obtain ⟨f, t, rfl, rfl, rfl, rfl, hF, rfl⟩ := hcut
    as_aux_lemma =>
      go_upto_region 17 with fail
      go_cut [81] (fun c wx => c = .bool (decide ((Num.al s.data.toList).length = 0)) ∧ wx = w.alloc (.cells #[.bool (Num.ng s.data.toList), .string ⟨#[]⟩, .int .i64 0] 24))
      case first =>
        as_aux_lemma =>
          have hnr := Num.none_read s.data.toList
          have HR : Hid ((Num.i3 s.data.toList = Num.i1 s.data.toList ∨ (Num.i3 s.data.toList = Num.i1 s.data.toList + 1 ∧ Num.pt s.data.toList = Num.i1 s.data.toList)) ↔ (Num.al s.data.toList).length = 0) := hnr
          clear hnr
          by_cases h0 : Num.i3 s.data.toList = Num.i1 s.data.toList
          · have hb : ((Num.i3 s.data.toList : Int) - (Num.i1 s.data.toList : Int) == 0) = true := by simp; omega
            have H0 : Hid (Num.i3 s.data.toList = Num.i1 s.data.toList) := h0
            clear h0
            go_wp2
            go_meet
            case rel => exact ⟨congrArg Value.bool (decide_eq_true (HR.out.1 (.inl H0.out))).symm, rfl⟩
          have hb : ((Num.i3 s.data.toList : Int) - (Num.i1 s.data.toList : Int) == 0) = false := by simp; omega
          by_cases h1 : Num.i3 s.data.toList = Num.i1 s.data.toList + 1
          · have hb1 : ((Num.i3 s.data.toList : Int) - (Num.i1 s.data.toList : Int) == 1) = true := by simp; omega
            have H1 : Hid (Num.i3 s.data.toList = Num.i1 s.data.toList + 1) := h1
            have H0 : Hid (¬ Num.i3 s.data.toList = Num.i1 s.data.toList) := h0
            clear h0 h1
            by_cases h2 : Num.pt s.data.toList = Num.i1 s.data.toList
            · have hb2 : (Num.pt s.data.toList == (Num.i1 s.data.toList : Int)) = true := by simp; omega
              have H2 : Hid (Num.pt s.data.toList = Num.i1 s.data.toList) := h2
              clear h2
              go_wp2
              go_meet
              case rel => exact ⟨congrArg Value.bool (decide_eq_true (HR.out.1 (.inr ⟨H1.out, H2.out⟩))).symm, rfl⟩
            · have hb2 : (Num.pt s.data.toList == (Num.i1 s.data.toList : Int)) = false := by simp; omega
              have H2 : Hid (¬ Num.pt s.data.toList = Num.i1 s.data.toList) := h2
              clear h2
              go_wp2
              go_meet
              case rel => exact ⟨congrArg Value.bool (decide_eq_false (fun h => by rcases HR.out.2 h with c | c; exact H0.out c; exact H2.out c.2)).symm, rfl⟩
          · have hb1 : ((Num.i3 s.data.toList : Int) - (Num.i1 s.data.toList : Int) == 1) = false := by simp; omega
            have H1 : Hid (¬ Num.i3 s.data.toList = Num.i1 s.data.toList + 1) := h1
            have H0 : Hid (¬ Num.i3 s.data.toList = Num.i1 s.data.toList) := h0
            clear h0 h1
            go_wp2
            go_meet
            case rel => exact ⟨congrArg Value.bool (decide_eq_false (fun h => by rcases HR.out.2 h with c | c; exact H0.out c; exact H1.out c.1)).symm, rfl⟩
      case rest =>
      obtain ⟨rfl, rfl⟩ := hcut
      by_cases hz : (Num.al s.data.toList).length = 0
      · skip
        as_aux_lemma =>
          have HX : Hid (Num.val s.data.toList = none) := Num.al_nil _ (by rw [← Num.al_len]; exact hz)
          go_wp2
          refine bodyPost_ret (v := .tuple #[.agg #[.bool false, .string ⟨#[]⟩, .int .i64 0], .bool false]) (by simp [results, Trym.results17, go_sem]) rfl (ReadPost.mk (.inl ⟨HX.out, rfl, rfl, rfl, rfl⟩) _ 0 rfl)
      have HV : Hid (Num.val s.data.toList = Num.ex (Num.r3 s.data.toList)) := Num.al_ne _ (by rw [← Num.al_len]; exact hz)
      go_upto_region 20 with fail
      go_cut [98] (fun c wx => c = .bool (Num.isE (Num.r3 s.data.toList)) ∧ wx = w.alloc (.cells #[.bool (Num.ng s.data.toList), .string ⟨#[]⟩, .int .i64 0] 24))
      case first =>
        as_aux_lemma =>
          by_cases h0 : Num.i3 s.data.toList < s.size
          · have hd := Num.isE_at s.data.toList (Num.i3 s.data.toList) (by rw [len_s]; exact h0)
            rw [Num.r3_drop, cd_s s _ h0] at hd
            have HD : Hid (Num.isE (Num.r3 s.data.toList) = (s[Num.i3 s.data.toList].toNat == 101 || s[Num.i3 s.data.toList].toNat == 69)) := hd
            clear hd
            by_cases h1 : s[Num.i3 s.data.toList].toNat = 101
            · have h1' : ((s[Num.i3 s.data.toList].toNat : Int) == 101) = true := by simp; omega
              go_wp2
              go_meet
              case rel => exact ⟨congrArg Value.bool (by rw [HD.out]; simp [h1]), rfl⟩
            · have h1' : ((s[Num.i3 s.data.toList].toNat : Int) == 101) = false := by simp; omega
              go_wp2
              go_meet
              case rel => exact ⟨congrArg Value.bool (by rw [HD.out, Bool.eq_iff_iff]; simp; omega), rfl⟩
          · have hd := Num.isE_out s.data.toList (Num.i3 s.data.toList) (by rw [len_s]; omega)
            rw [Num.r3_drop] at hd
            have HD : Hid (Num.isE (Num.r3 s.data.toList) = false) := hd
            clear hd
            go_wp2
            go_meet
            case rel => exact ⟨congrArg Value.bool HD.out.symm, rfl⟩
      case rest =>
      obtain ⟨rfl, rfl⟩ := hcut
      clear hz
      go_upto_if 98 with fail
      go_cut [4, 11, 12, 13] (fun i e p q wx => ∃ (k : Nat) (x : Int), i = .int .i64 k ∧ e = .int .i64 x ∧ k ≤ s.size ∧ -1000000000 ≤ x ∧ x ≤ 1000000000 ∧ Hid (k = s.size → Num.val s.data.toList = some x) ∧ Hid (k < s.size → Num.val s.data.toList = none) ∧ wx = w.alloc (.cells #[.bool (Num.ng s.data.toList), .string ⟨#[]⟩, .int .i64 0] 24))
      case first =>
        cases hE : Num.isE (Num.r3 s.data.toList)
        · skip
          as_aux_lemma =>
            have HD : Hid (Num.isE (Num.r3 s.data.toList) = false) := hE
            go_wp2
            go_meet
            case rel =>
              refine ⟨_, _, rfl, rfl, L3, by decide, by decide, ?_, ?_, rfl⟩
              · intro h; rw [HV.out]; exact Num.ex_plain _ HD.out (by rw [len_s]; exact h)
              · intro h; rw [HV.out]; exact Num.ex_more _ HD.out (by rw [len_s]; exact h)
        · have h3E := Num.i3_E s.data.toList hE
          have h4E := Num.i4_le s.data.toList hE
          have h5E := Num.i5_le s.data.toList hE
          have h45 := Num.i45 s.data.toList
          rw [len_s] at h3E h4E h5E
          have HE : Hid (Num.isE (Num.r3 s.data.toList) = true) := hE
          go_upto_region 22 with fail
          go_cut [12] (fun c wx => c = .bool (Num.ng (s.data.toList.drop (Num.i3 s.data.toList + 1))) ∧ wx = w.alloc (.cells #[.bool (Num.ng s.data.toList), .string ⟨#[]⟩, .int .i64 0] 24))
          case first =>
            as_aux_lemma =>
              by_cases h0 : Num.i3 s.data.toList + 1 < s.size
              · have hd := ng_in s _ h0
                have HD : Hid (Num.ng (s.data.toList.drop (Num.i3 s.data.toList + 1)) = ((s[Num.i3 s.data.toList + 1].toNat : Int) == 45)) := hd
                clear hd
                go_wp2
                go_meet
                case rel => exact ⟨congrArg Value.bool HD.out.symm, rfl⟩
              · have hd := ng_past s (Num.i3 s.data.toList + 1) (by omega)
                have HD : Hid (Num.ng (s.data.toList.drop (Num.i3 s.data.toList + 1)) = false) := hd
                clear hd
                go_wp2
                go_meet
                case rel => exact ⟨congrArg Value.bool HD.out.symm, rfl⟩
          case rest =>
          obtain ⟨rfl, rfl⟩ := hcut
          go_upto_region 23 with fail
          go_cut [126] (fun c wx => c = .bool (decide (Num.sg (s.data.toList.drop (Num.i3 s.data.toList + 1)) = 1)) ∧ wx = w.alloc (.cells #[.bool (Num.ng s.data.toList), .string ⟨#[]⟩, .int .i64 0] 24))
          case first =>
            as_aux_lemma =>
              by_cases h0 : Num.i3 s.data.toList + 1 < s.size
              · by_cases h1 : s[Num.i3 s.data.toList + 1].toNat = 43
                · have h1' : ((s[Num.i3 s.data.toList + 1].toNat : Int) == 43) = true := by simp; omega
                  go_wp2
                  go_meet
                  case rel => exact ⟨congrArg Value.bool (decide_eq_true (sg_yes s _ h0 (.inl h1))).symm, rfl⟩
                · have h1' : ((s[Num.i3 s.data.toList + 1].toNat : Int) == 43) = false := by simp; omega
                  by_cases h2 : s[Num.i3 s.data.toList + 1].toNat = 45
                  · have h2' : ((s[Num.i3 s.data.toList + 1].toNat : Int) == 45) = true := by simp; omega
                    go_wp2
                    go_meet
                    case rel => exact ⟨congrArg Value.bool (decide_eq_true (sg_yes s _ h0 (.inr h2))).symm, rfl⟩
                  · have h2' : ((s[Num.i3 s.data.toList + 1].toNat : Int) == 45) = false := by simp; omega
                    go_wp2
                    go_meet
                    case rel => exact ⟨congrArg Value.bool (decide_eq_false (by have := sg_none s _ h0 h1 h2; omega)).symm, rfl⟩
              · go_wp2
                go_meet
                case rel => exact ⟨congrArg Value.bool (decide_eq_false (by have := sg_past s (Num.i3 s.data.toList + 1) (by omega); omega)).symm, rfl⟩
          case rest =>
          obtain ⟨rfl, rfl⟩ := hcut
          go_upto_if 126 with fail
          go_cut [4] (fun i wx => i = .int .i64 (Num.i4 s.data.toList : Nat) ∧ wx = w.alloc (.cells #[.bool (Num.ng s.data.toList), .string ⟨#[]⟩, .int .i64 0] 24))
          case first =>
            as_aux_lemma =>
              rcases sign_cases s (Num.i3 s.data.toList + 1) with ⟨h0, h1, h2⟩ | ⟨h1, h2, h3⟩
              · have E1 : Hid (Num.i4 s.data.toList = Num.i3 s.data.toList + 1 + 1) := by show _ = _; unfold Num.i4; rw [h2]
                go_wp2
                go_meet
                case rel => exact ⟨by rw [E1.out]; go_num, rfl⟩
              · have E1 : Hid (Num.i4 s.data.toList = Num.i3 s.data.toList + 1) := by show _ = _; unfold Num.i4; rw [h2]
                have e3 : ¬ Num.sg (List.drop (Num.i3 s.data.toList + 1) s.data.toList) = 1 := by rw [h2]; omega
                clear h2 h1 h3
                go_wp2
                go_meet
                case rel => exact ⟨by rw [E1.out]; go_num, rfl⟩
          case rest =>
          obtain ⟨rfl, rfl⟩ := hcut
          as_aux_lemma =>
            by_cases he : Num.i4 s.data.toList = s.size
            · have heb : ((Num.i4 s.data.toList : Int) == (s.size : Int)) = true := by simp; omega
              have HX : Hid (Num.val s.data.toList = none) := by show _ = _; rw [HV.out]; exact Num.ex_empty _ HE.out (by omega)
              clear he
              go_wp2
              refine bodyPost_ret (v := .tuple #[.agg #[.bool false, .string ⟨#[]⟩, .int .i64 0], .bool false]) (by simp [results, Trym.results17, go_sem]) rfl (ReadPost.mk (.inl ⟨HX.out, rfl, rfl, rfl, rfl⟩) _ 0 rfl)
            have heb : ((Num.i4 s.data.toList : Int) == (s.size : Int)) = false := by simp; omega
            have h4lt : Num.i4 s.data.toList < s.size := by omega
            clear he
            go_wp2_with fail
            go_loop [4, 11] (fun i e => ∃ k : Nat, Num.i4 s.data.toList ≤ k ∧ k ≤ Num.i5 s.data.toList ∧ i = .int .i64 k ∧ e = .int .i64 (Num.exTo s.data.toList k)) (fun i _ => s.size - (intOf i).toNat)
            case atStart => exact ⟨_, Nat.le_refl _, h45, rfl, by rw [Num.exTo_start]⟩
            case round =>
              obtain ⟨k, hk1, hk2, rfl, rfl⟩ := hrel
              have hb := Num.exTo_bd s.data.toList k hk2
              by_cases hlt : k < Num.i5 s.data.toList
              · have hd := Num.ex_dig s.data.toList k hk1 hlt
                have hn := Num.exTo_next s.data.toList k hk1 hd.1
                rw [len_s] at hd
                obtain ⟨hd1, hd2⟩ := hd
                rw [at_s s k hd1] at hd2 hn
                have hd3 := (Num.isD_iff _).1 hd2
                have hc1 : (48 : Int) ≤ (s[k].toNat : Int) := by omega
                have hc2 : (s[k].toNat : Int) ≤ 57 := by omega
                unfold Num.stepE at hn
                have HN : Hid (Num.exTo s.data.toList (k + 1) = if Num.exTo s.data.toList k < 100000000 then Num.exTo s.data.toList k * 10 + ((s[k].toNat : Int) - 48) else Num.exTo s.data.toList k) := hn
                clear hn hd2
                by_cases hbig : Num.exTo s.data.toList k < 100000000
                · go_wp2
                  go_round
                  case rel => exact ⟨k + 1, by omega, by omega, by go_num, by rw [HN.out, if_pos hbig]⟩
                  case measure => simp [intOf]; omega
                · go_wp2
                  go_round
                  case rel => exact ⟨k + 1, by omega, by omega, by go_num, by rw [HN.out, if_neg (by omega)]⟩
                  case measure => simp [intOf]; omega
              · have hk3 : k = Num.i5 s.data.toList := by omega
                by_cases hsz : k < s.size
                · have hd := Num.ex_end s.data.toList (by rw [len_s, ← hk3]; exact hsz)
                  have HX : Hid (Num.val s.data.toList = none) := by show _ = _; rw [HV.out]; exact Num.ex_stop _ HE.out (by rw [len_s, ← hk3]; exact hsz)
                  rw [← hk3, at_s s k hsz, Num.isD_no] at hd
                  clear hk3
                  by_cases hc : (s[k].toNat : Int) < 48
                  · clear hd
                    go_wp2
                    refine bodyPost_ret (v := .tuple #[.agg #[.bool false, .string ⟨#[]⟩, .int .i64 0], .bool false]) (by simp [results, Trym.results17, go_sem]) rfl (ReadPost.mk (.inl ⟨HX.out, rfl, rfl, rfl, rfl⟩) _ 0 rfl)
                  · have hc2 : (57 : Int) < (s[k].toNat : Int) := by omega
                    clear hd
                    go_wp2
                    refine bodyPost_ret (v := .tuple #[.agg #[.bool false, .string ⟨#[]⟩, .int .i64 0], .bool false]) (by simp [results, Trym.results17, go_sem]) rfl (ReadPost.mk (.inl ⟨HX.out, rfl, rfl, rfl, rfl⟩) _ 0 rfl)
                · have HX : Hid (k = s.size → Num.val s.data.toList = some (if Num.ng (s.data.toList.drop (Num.i3 s.data.toList + 1)) = true then -(Num.exTo s.data.toList k) else Num.exTo s.data.toList k)) := by
                    intro h; rw [HV.out, hk3]; exact Num.ex_whole _ HE.out (by omega) (by rw [len_s, ← hk3]; exact h)
                  clear hk3
                  cases hn : Num.ng (s.data.toList.drop (Num.i3 s.data.toList + 1))
                  · rw [hn] at HX
                    go_wp2
                    go_meet
                    case rel => exact ⟨_, _, rfl, rfl, by omega, by omega, by omega, HX, fun h => absurd h hsz, rfl⟩
                  · rw [hn] at HX
                    go_wp2
                    go_meet
                    case rel => exact ⟨_, _, rfl, rfl, by omega, by omega, by omega, HX, fun h => absurd h hsz, rfl⟩
      case rest =>
      obtain ⟨k, x, rfl, rfl, hk, hx1, hx2, HX, HY, rfl⟩ := hcut
      as_aux_lemma =>
        by_cases hks : k = s.size
        case neg =>
          as_aux_lemma =>
            have hkb : ((k : Int) != (s.size : Int)) = true := by simp; omega
            have HN : Hid (Num.val s.data.toList = none) := HY (by omega)
            clear HX HY hks
            have HX := HN
            go_wp2
            refine bodyPost_ret (v := .tuple #[.agg #[.bool false, .string ⟨#[]⟩, .int .i64 0], .bool false]) (by simp [results, Trym.results17, go_sem]) rfl (ReadPost.mk (.inl ⟨HX.out, rfl, rfl, rfl, rfl⟩) _ 0 rfl)
        case pos =>
        have hkb : ((k : Int) != (s.size : Int)) = false := by simp; omega
        have HKS : Hid (k = s.size) := hks
        clear hks
        rcases hF.out.ends with ⟨hf, hall⟩ | ⟨a, b, hf, ht, hM⟩
        · skip
          as_aux_lemma =>
            have hf0 : f < 0 := by omega
            have HS : Hid (Num.Says s.data.toList false [] 0 true) := .inr (.inl ⟨x, HX HKS.out, rfl, hall, rfl, rfl, rfl⟩)
            clear hf hall HX HY
            go_wp2
            exact bodyPost_ret (v := .tuple #[.agg #[.bool false, .string ⟨#[]⟩, .int .i64 0], .bool true]) (by simp [results, Trym.results17, go_sem]) rfl (ReadPost.mk HS.out _ 0 rfl)
        subst hf
        subst ht
        have hf0 : ¬ (Num.pos s.data.toList a : Int) < 0 := by omega
        go_upto_if 170 with fail
        go_cut [6] (fun v wx => v = .int .i64 (Num.i2 s.data.toList : Nat) ∧ wx = w.alloc (.cells #[.bool (Num.ng s.data.toList), .string ⟨#[]⟩, .int .i64 0] 24))
        case first =>
          as_aux_lemma =>
            by_cases hp : Num.pt s.data.toList < 0
            · have HP : Hid (Num.i3 s.data.toList = Num.i2 s.data.toList) := Num.pt_lt _ hp
              go_wp2
              go_meet
              case rel => exact ⟨by rw [HP.out], rfl⟩
            · have HP : Hid (Num.pt s.data.toList = Num.i2 s.data.toList) := Num.pt_ge _ hp
              go_wp2
              go_meet
              case rel => exact ⟨by rw [HP.out], rfl⟩
        case rest =>
        obtain ⟨rfl, rfl⟩ := hcut
        as_aux_lemma =>
          have hlen := Num.ip_len s.data.toList
          obtain ⟨hab, hbl, _⟩ := hM
          have HM : Hid (Num.Mark (Num.al s.data.toList) a b) := ⟨hab, hbl, by assumption⟩
          rcases Nat.lt_or_ge b (Num.ip s.data.toList).length with hb | hb
          · have ea : Num.pos s.data.toList a = Num.i1 s.data.toList + a := by unfold Num.pos; rw [if_pos (by omega)]
            have eb : Num.pos s.data.toList b = Num.i1 s.data.toList + b := by unfold Num.pos; rw [if_pos (by omega)]
            have HS : Hid (Num.Says s.data.toList (Num.ng s.data.toList) (s.extract (Num.i1 s.data.toList + a) (Num.i1 s.data.toList + b + 1)).data.toList (x + (Num.i2 s.data.toList : Int) - ((Num.i1 s.data.toList : Int) + (a : Int)) - 1) true) := by
              refine .inr (.inr ⟨x, a, b, HX HKS.out, rfl, HM.out, rfl, ?_, ?_⟩)
              · rw [ext_l]; exact Num.digits_left _ a b hab hb
              · omega
            have g1 : Num.i1 s.data.toList + a < Num.i2 s.data.toList := by omega
            have g2 : Num.i1 s.data.toList + b < Num.i2 s.data.toList := by omega
            clear hlen hb hbl HX HY
            go_wp2
            exact bodyPost_ret (v := .tuple #[.agg #[.bool (Num.ng s.data.toList), .string (s.extract (Num.i1 s.data.toList + a) (Num.i1 s.data.toList + b + 1)), .int .i64 (x + (Num.i2 s.data.toList : Int) - ((Num.i1 s.data.toList : Int) + (a : Int)) - 1)], .bool true]) (by simp [results, Trym.results17, go_sem]) rfl (ReadPost.mk HS.out _ 0 rfl)
          have hdot := Num.right_dot s.data.toList b hb hbl
          have h3 := Num.i3_dot s.data.toList hdot
          have hal := Num.al_len s.data.toList
          have eb : Num.pos s.data.toList b = Num.i1 s.data.toList + b + 1 := by unfold Num.pos; rw [if_neg (by omega)]
          have g2 : Num.i2 s.data.toList < Num.i1 s.data.toList + b + 1 := by omega
          have g3 : Num.i1 s.data.toList + b + 1 + 1 ≤ Num.i3 s.data.toList := by omega
          rcases Nat.lt_or_ge a (Num.ip s.data.toList).length with ha | ha
          · have ea : Num.pos s.data.toList a = Num.i1 s.data.toList + a := by unfold Num.pos; rw [if_pos (by omega)]
            have HS : Hid (Num.Says s.data.toList (Num.ng s.data.toList) (s.extract (Num.i1 s.data.toList + a) (Num.i2 s.data.toList) ++ s.extract (Num.i2 s.data.toList + 1) (Num.i1 s.data.toList + b + 1 + 1)).data.toList (x + (Num.i2 s.data.toList : Int) - ((Num.i1 s.data.toList : Int) + (a : Int)) - 1) true) := by
              refine .inr (.inr ⟨x, a, b, HX HKS.out, rfl, HM.out, rfl, ?_, ?_⟩)
              · rw [← Num.digits_both _ hdot a b ha hb hbl, ← ext_l, ← ext_l]; simp
              · omega
            have g1 : Num.i1 s.data.toList + a < Num.i2 s.data.toList := by omega
            clear hlen hb hbl HX HY hdot h3 hal ha
            go_wp2
            go_region
            all_goals
              go_wp2
              exact bodyPost_ret (v := .tuple #[.agg #[.bool (Num.ng s.data.toList), .string (s.extract (Num.i1 s.data.toList + a) (Num.i2 s.data.toList) ++ s.extract (Num.i2 s.data.toList + 1) (Num.i1 s.data.toList + b + 1 + 1)), .int .i64 (x + (Num.i2 s.data.toList : Int) - ((Num.i1 s.data.toList : Int) + (a : Int)) - 1)], .bool true]) (by simp [results, Trym.results17, go_sem]) rfl (ReadPost.mk HS.out _ 1 rfl)
          · have ea : Num.pos s.data.toList a = Num.i1 s.data.toList + a + 1 := by unfold Num.pos; rw [if_neg (by omega)]
            have HS : Hid (Num.Says s.data.toList (Num.ng s.data.toList) (s.extract (Num.i1 s.data.toList + a + 1) (Num.i1 s.data.toList + b + 1 + 1)).data.toList (x + (Num.i2 s.data.toList : Int) - ((Num.i1 s.data.toList : Int) + (a : Int) + 1)) true) := by
              refine .inr (.inr ⟨x, a, b, HX HKS.out, rfl, HM.out, rfl, ?_, ?_⟩)
              · rw [ext_l]; exact Num.digits_right _ hdot a b hab ha hbl
              · omega
            have g1 : Num.i2 s.data.toList ≤ Num.i1 s.data.toList + a := by omega
            clear hlen hb hbl HX HY hdot h3 hal ha
            go_wp2
            exact bodyPost_ret (v := .tuple #[.agg #[.bool (Num.ng s.data.toList), .string (s.extract (Num.i1 s.data.toList + a + 1) (Num.i1 s.data.toList + b + 1 + 1)), .int .i64 (x + (Num.i2 s.data.toList : Int) - ((Num.i1 s.data.toList : Int) + (a : Int) + 1))], .bool true]) (by simp [results, Trym.results17, go_sem]) rfl (ReadPost.mk HS.out _ 0 rfl)
end Go.Proofs.Qxb6003610aMods
