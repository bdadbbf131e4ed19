/-
  THE PROOF OF 'Rows.FnWellFormedRequestIDGluesWithinLimitSaid': the frame is the shell's (proof-skeleton.mjs), its last rows turned to 'Below' (the range over an id's bytes makes a row); the walk goes by the contracts of the service's test and the model and by the plain law of two parts glued.
-/
import Derived.Test.Qxb6605518aModsRows
import Derived.Test.Qxb6605518aModsIds
import Derived.WalkKit
import Derived.ProofKit
import Derived.OpenShut
import Derived.ShutString
import Derived.ChangeOld
import Derived.Below
namespace Go.Proofs.Qxb6605518aMods.fnWellFormedRequestIDGluesWithinLimit
open Go.ChangeShapes Go.WideShapes Go.ChangeAt Go.RowKit
open Go.ChangeMaps (open_string shut_string)
set_option linter.unusedVariables false      -- a walk need not use every 'w<i>' (that an integer argument fits its kind)

theorem own : ownKnob Trym.prog.godebug = none := by kernel_rfl

/-! ### STEP 1: THE WALK: the Go text returns true, and writes nothing that was there. -/
set_option maxRecDepth 100000 in
theorem bytes11_any (a b : ByteArray) (w : World) (ha : a.size ≤ 9223372036854775807) (hb : b.size ≤ 9223372036854775807) :
    Calls Trym.prog 11 #[.string a, .string b] w fun e w' => e = .returned (.bool (decide (a.size + b.size ≤ 1048576))) ∧ w' = w := by
  by_cases h1 : a.size ≤ 1048576
  · by_cases h2 : b.size ≤ 1048576
    · by_cases h3 : a.size + b.size ≤ 1048576
      · go_enter Trym.func11, Trym.ntmps11
        go_wp2
        go_ret
        exact ⟨ret_bool (decide_eq_true h3).symm, rfl⟩
      · go_enter Trym.func11, Trym.ntmps11
        go_wp2
        go_ret
        exact ⟨ret_bool (decide_eq_false (by omega)).symm, rfl⟩
    · go_enter Trym.func11, Trym.ntmps11
      go_wp2
      go_ret
      exact ⟨ret_bool (decide_eq_false (by omega)).symm, rfl⟩
  · go_enter Trym.func11, Trym.ntmps11
    go_wp2
    go_ret
    exact ⟨ret_bool (decide_eq_false (by omega)).symm, rfl⟩

set_option maxRecDepth 100000 in
set_option maxHeartbeats 1000000 in
theorem walk (a0 : ByteArray) (a1 : ByteArray) (w0 : a0.size ≤ maxLen) (w1 : a1.size ≤ maxLen) (w : World) :
    Calls Trym.prog 4 #[.string a0, .string a1] w fun e w' => e = .returned (.bool true) ∧ Below w.heap.size w w' := by
  unfold maxLen at w0 w1
  by_cases hs : a0.size + a1.size ≤ 1048576
  case neg =>
    go_enter Trym.func4, Trym.ntmps4
    go_wp2_with fail
    refine (bytes11_any _ _ _ (by omega) (by omega)).mono ?_
    rintro e w2 ⟨rfl, rfl⟩
    rw [decide_eq_false hs]
    go_wp2
    go_ret
    exact ⟨rfl, Below.refl _ _⟩
  have hs0 : (a0.size : Int) ≤ 1048576 := by omega
  have hs1 : (a1.size : Int) ≤ 1048576 := by omega
  have hs2 : (a0.size : Int) + (a1.size : Int) ≤ 1048576 := by omega
  have HG : Hid (Rid.wf (a0 ++ a1).data.toList = if a0.size = 0 then Rid.wf a1.data.toList else if a1.size = 0 then Rid.wf a0.data.toList else Rid.wf a0.data.toList && (Rid.wf a1.data.toList && decide (a0.size + a1.size ≤ 100))) := by
    show _ = _
    have := Rid.wf_glue a0.data.toList a1.data.toList
    rw [len_s, len_s] at this
    rw [← this]; simp
  go_enter Trym.func4, Trym.ntmps4
  go_wp2_with fail
  refine (bytes11_any _ _ _ (by omega) (by omega)).mono ?_
  rintro e w2 ⟨rfl, rfl⟩
  rw [decide_eq_true hs]
  go_wp2_with fail
  refine (zzwf_any a0 _ (by omega)).mono ?_
  rintro e wa ⟨rfl, hba⟩
  go_wp2_with fail
  refine (zzwf_any a1 _ (by omega)).mono ?_
  rintro e wb ⟨rfl, hbb⟩
  go_wp2_with fail
  refine (zzwf_any (a0 ++ a1) _ (by simp; omega)).mono ?_
  rintro e wc ⟨rfl, hbc⟩
  generalize Rid.wf (a0 ++ a1).data.toList = C at HG ⊢
  go_wp2_with fail
  refine (model_any a0 _ (by omega)).mono ?_
  rintro e wd ⟨rfl, rfl⟩
  have BW : Hid (Below w2.heap.size w2 wd) := (hba.trans (hbb.mono hba.size)).trans (hbc.mono (Nat.le_trans hba.size hbb.size))
  clear hba hbb hbc
  generalize Rid.wf a0.data.toList = A at HG ⊢
  go_wp2_with fail
  refine (model_any a1 _ (by omega)).mono ?_
  rintro e we ⟨rfl, rfl⟩
  generalize Rid.wf a1.data.toList = B at HG ⊢
  by_cases h0 : a0.size = 0
  · have hb0 : ((a0.size : Int) == 0) = true := beq_iff_eq.2 (by omega)
    obtain rfl : C = B := by rw [HG.out, if_pos h0]
    clear h0
    go_wp2
    go_ret
    exact ⟨rfl, BW.out⟩
  have hb0 : ((a0.size : Int) == 0) = false := beq_eq_false_iff_ne.2 (by omega)
  by_cases h1 : a1.size = 0
  · have hb1 : ((a1.size : Int) == 0) = true := beq_iff_eq.2 (by omega)
    obtain rfl : C = A := by rw [HG.out, if_neg h0, if_pos h1]
    clear h1 h0
    go_wp2
    go_ret
    exact ⟨rfl, BW.out⟩
  have hb1 : ((a1.size : Int) == 0) = false := beq_eq_false_iff_ne.2 (by omega)
  obtain rfl : C = (A && (B && decide (a0.size + a1.size ≤ 100))) := by rw [HG.out, if_neg h0, if_neg h1]
  clear h1 h0 HG
  by_cases h100 : a0.size + a1.size ≤ 100
  · have h100i : (a0.size : Int) + (a1.size : Int) ≤ 100 := by omega
    cases A <;> cases B
    all_goals
      go_wp2
      go_ret
      exact ⟨ret_bool (by first | (simp; done) | (simp; omega)), BW.out⟩
  · have h100i : ¬ (a0.size : Int) + (a1.size : Int) ≤ 100 := by omega
    cases A <;> cases B
    all_goals
      go_wp2
      go_ret
      exact ⟨ret_bool (by first | (simp; done) | (simp; omega)), BW.out⟩

/-! ### THE ROW's STEP: WRITTEN OUT: LEAVE IT -/
set_option maxRecDepth 100000 in
theorem lifted (os : Os) (started : os.Started) (H : Type) (enc : TypeId × Value → H) :
    ReturnsInHanded {} Trym.checked os 4 .any (Rows.fnWellFormedRequestIDGluesWithinLimitSpec.pre6 enc Trym.prog Trym.f4 Rows.fnWellFormedRequestIDGluesWithinLimitRow.domain false) (Rows.fnWellFormedRequestIDGluesWithinLimitSpec.post enc Trym.prog Trym.f4 false true false false) := by
  refine returnsInHanded_of_change (C := Trym.checked) own started (by kernel_rfl) Trym.func4
    (ChangeSpec.witness6 (enc := enc) (C := Trym.checked) false ⟨#[], #[.string ByteArray.empty, .string ByteArray.empty], []⟩ 8 (by kernel_rfl) (by kernel_rfl) (by kernel_rfl) (by kernel_rfl)) ?_
  intro W base args ds gs before hval0 hW hcnd _
  have hval : ∀ (j : Nat) t v, Trym.f4.params[j]? = some t → args[j]? = some v → Value.okWide Trym.prog W .any base t v := hval0
  have hW' := hW
  obtain ⟨p, q, hA0, hV, rfl, hfz, hnd⟩ := hW
  have hA : DataW.TrodAll enc Trym.prog W 0 (fun _ => true) true Trym.f4.params.toList args.toList ds p := hA0
  rw [Trym.params4] at hA hval
  obtain ⟨v0, vs0, d0, ds0, p0, q0, hargs, rfl, rfl, h0, r0⟩ := trodAll_cons hA
  obtain ⟨v1, vs1, d1, ds1, p1, q1, rfl, rfl, rfl, h1, r1⟩ := trodAll_cons r0
  obtain ⟨rfl, rfl, rfl⟩ := trodAll_nil r1
  obtain rfl : args = #[v0, v1] := by cases args; simp_all
  obtain ⟨rfl, rfl⟩ := trodVars_none hV
  obtain ⟨a0, rfl, rfl, rfl, w0⟩ := open_string Trym.underlying9 (hval 0 9 v0 rfl rfl) h0
  obtain ⟨a1, rfl, rfl, rfl, w1⟩ := open_string Trym.underlying9 (hval 1 9 v1 rfl rfl) h1
  clear hA0 hval0
  refine (walk a0 a1 w0 w1 W).mono fun e W' ⟨he, bel⟩ => ?_
  subst he
  exact ⟨_, rfl, _, _, _, [], _, [], hW', trodAll_mk1 (shut_bool Trym.underlying4 _), (trodAll_cons_mk (shut_string Trym.underlying9 w0) (trodAll_cons_mk (shut_string Trym.underlying9 w1) trodAll_mk0)), rfl, bel.frame _, fun h => by cases h⟩

theorem over : Rows.fnWellFormedRequestIDGluesWithinLimitRow.holds Trym.pinned (OpenSpec.ofChange Rows.fnWellFormedRequestIDGluesWithinLimitSpec) :=
  OpenClaim.holds_of_wide 4 Trym.f4 rfl rfl rfl rfl rfl rfl rfl ⟨rfl, rfl, rfl, rfl, rfl⟩ rfl rfl rfl rfl rfl (by kernel_rfl) Trym.func4 (by kernel_rfl)
    (of_decide_eq_true (by kernel_rfl)) (by unfold Func.isWrapper; first | (rw [if_pos (by decide +kernel)]; kernel_rfl) | (rw [if_neg (by decide +kernel)]; exact ⟨rfl, rfl⟩))
    (fun os started H enc _ => lifted os started H enc)

/-- ████ THE STATEMENT ████ -/
theorem proved : Rows.FnWellFormedRequestIDGluesWithinLimitSaid :=
  over
#print axioms proved
end Go.Proofs.Qxb6605518aMods.fnWellFormedRequestIDGluesWithinLimit
