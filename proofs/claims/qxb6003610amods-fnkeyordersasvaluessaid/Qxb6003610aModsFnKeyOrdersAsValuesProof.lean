/-
  THE PROOF OF 'Rows.FnKeyOrdersAsValuesSaid': the frame is the shell's (proof-skeleton.mjs), its last rows turned to 'Below' (Key makes memory by append); the walk goes by the contracts of Key and of the two compares and by the plain law that keys order as values.
-/
import Derived.Test.Qxb6003610aModsRows
import Derived.Test.Qxb6003610aModsKey
import Derived.Test.Qxb6003610aModsCompare
import Derived.WalkKit
import Derived.ProofKit
import Derived.OpenShut
import Derived.ShutString
import Derived.ChangeOld
import Derived.Below
namespace Go.Proofs.Qxb6003610aMods.fnKeyOrdersAsValues
open Go.ChangeShapes Go.WideShapes Go.ChangeAt Go.RowKit
open Go.ChangeMaps (open_string shut_string)
set_option linter.unusedVariables false      -- a walk need not use every 'w<i>' (that an integer argument fits its kind)

theorem own : ownKnob Trym.prog.godebug = none := by kernel_rfl

/-! ### STEP 1: THE WALK: the Go text returns true, and writes nothing that was there. -/
set_option maxRecDepth 100000 in
set_option maxHeartbeats 400000 in
theorem bytes13_any (n : Bool) (d : ByteArray) (x : Int) (n' : Bool) (d' : ByteArray) (x' : Int) (w : World) (hd : d.size ≤ 9223372036854775807) (hd' : d'.size ≤ 9223372036854775807) :
    Calls Trym.prog 13 #[.bool n, .string d, .int .i64 x, .bool n', .string d', .int .i64 x'] w fun e w' => (∃ b, e = .returned (.bool b) ∧ (d.size ≤ 65536 → d'.size ≤ 65536 → b = true)) ∧ w' = w := by
  by_cases h1 : d.size ≤ 1048576
  · by_cases h2 : d'.size ≤ 1048576
    · by_cases h3 : d.size + d'.size ≤ 1048576
      · go_enter Trym.func13, Trym.ntmps13
        go_wp2
        go_ret
        exact ⟨⟨true, rfl, fun _ _ => rfl⟩, rfl⟩
      · go_enter Trym.func13, Trym.ntmps13
        go_wp2
        go_ret
        exact ⟨⟨false, rfl, fun _ _ => by omega⟩, rfl⟩
    · go_enter Trym.func13, Trym.ntmps13
      go_wp2
      go_ret
      exact ⟨⟨false, rfl, fun _ _ => by omega⟩, rfl⟩
  · go_enter Trym.func13, Trym.ntmps13
    go_wp2
    go_ret
    exact ⟨⟨false, rfl, fun _ _ => by omega⟩, rfl⟩

theorem key_len (n : Bool) (d : List UInt8) (x : Int) (h : d.length ≤ 65536) : (Num.key n d x).length ≤ 1048576 := by
  unfold Num.key
  split
  · simp
  · split <;> simp <;> omega

set_option maxRecDepth 100000 in
set_option maxHeartbeats 2000000 in
theorem walk (a0 : Bool) (a1 : ByteArray) (a2 : Int) (a3 : Bool) (a4 : ByteArray) (a5 : Int) (w1 : a1.size ≤ maxLen) (w2 : (Lit.int .i64 a2).wf = true) (w4 : a4.size ≤ maxLen) (w5 : (Lit.int .i64 a5).wf = true) (w : World) :
    Calls Trym.prog 5 #[.bool a0, .string a1, .int .i64 a2, .bool a3, .string a4, .int .i64 a5] w fun e w' => e = .returned (.bool true) ∧ Below w.heap.size w w' := by
  unfold maxLen at w1 w4
  clear w2 w5
  by_cases hs1 : 65536 < a1.size
  · go_enter Trym.func5, Trym.ntmps5
    go_wp2_with fail
    refine (bytes13_any _ _ _ _ _ _ _ (by omega) (by omega)).mono ?_
    rintro e w' ⟨⟨b, rfl, -⟩, rfl⟩
    cases b
    all_goals
      go_wp2
      go_ret
      exact ⟨rfl, Below.refl _ _⟩
  by_cases hs2 : 65536 < a4.size
  · go_enter Trym.func5, Trym.ntmps5
    go_wp2_with fail
    refine (bytes13_any _ _ _ _ _ _ _ (by omega) (by omega)).mono ?_
    rintro e w' ⟨⟨b, rfl, -⟩, rfl⟩
    cases b
    all_goals
      go_wp2
      go_ret
      exact ⟨rfl, Below.refl _ _⟩
  by_cases hr : -130 ≤ a2 ∧ a2 ≤ 125 ∧ -130 ≤ a5 ∧ a5 ≤ 125
  case neg =>
    have hr' : a2 < -130 ∨ (¬ a2 < -130 ∧ 125 < a2) ∨ (¬ a2 < -130 ∧ ¬ 125 < a2 ∧ a5 < -130) ∨ (¬ a2 < -130 ∧ ¬ 125 < a2 ∧ ¬ a5 < -130 ∧ 125 < a5) := by omega
    clear hr
    rcases hr' with g1 | ⟨g1, g2⟩ | ⟨g1, g2, g3⟩ | ⟨g1, g2, g3, g4⟩
    all_goals
      go_enter Trym.func5, Trym.ntmps5
      go_wp2_with fail
      refine (bytes13_any _ _ _ _ _ _ _ (by omega) (by omega)).mono ?_
      rintro e w' ⟨⟨b, rfl, hb⟩, rfl⟩
      obtain rfl := hb (by omega) (by omega)
      go_wp2
      go_ret
      exact ⟨rfl, Below.refl _ _⟩
  obtain ⟨r1, r2, r3, r4⟩ := hr
  go_enter Trym.func5, Trym.ntmps5
  go_wp2_with fail
  refine (bytes13_any _ _ _ _ _ _ _ (by omega) (by omega)).mono ?_
  rintro e w' ⟨⟨b, rfl, hb⟩, rfl⟩
  obtain rfl := hb (by omega) (by omega)
  clear hb
  go_wp2_with fail
  refine (canon_any _ _ _ _ (by omega)).mono ?_
  rintro e w'' ⟨rfl, rfl⟩
  cases hc1 : Num.canonB a0 a1.data.toList a2
  · go_wp2
    go_ret
    exact ⟨rfl, Below.refl _ _⟩
  have HC1 : Hid (Num.canonB a0 a1.data.toList a2 = true) := hc1
  clear hc1
  go_wp2_with fail
  refine (canon_any _ _ _ _ (by omega)).mono ?_
  rintro e w3 ⟨rfl, rfl⟩
  cases hc2 : Num.canonB a3 a4.data.toList a5
  · go_wp2
    go_ret
    exact ⟨rfl, Below.refl _ _⟩
  have HC2 : Hid (Num.canonB a3 a4.data.toList a5 = true) := hc2
  clear hc2
  go_wp2_with fail
  refine (key_any _ _ _ _ (by omega) (by omega) (by omega) (Num.canon_dig _ _ _ HC1.out)).mono ?_
  rintro e wa ⟨T, rfl, hT, hba⟩
  go_wp2_with fail
  refine (key_any _ _ _ _ (by omega) (by omega) (by omega) (Num.canon_dig _ _ _ HC2.out)).mono ?_
  rintro e wb ⟨T', rfl, hT', hbb⟩
  have hTs : T.size ≤ 1048576 := by
    rw [size_l T _ hT.out]; exact key_len _ _ _ (by rw [len_s]; omega)
  have hTs' : T'.size ≤ 1048576 := by
    rw [size_l T' _ hT'.out]; exact key_len _ _ _ (by rw [len_s]; omega)
  go_wp2_with fail
  refine (cmps_any _ _ _ hTs hTs').mono ?_
  rintro e wc ⟨rfl, m, rfl⟩
  rw [hT.out, hT'.out, Num.key_orders _ _ _ _ _ _ HC1.out HC2.out r1 r2 r3 r4]
  go_wp2_with fail
  refine (cmpv_any _ _ _ _ _ _ _ (by omega) (by omega)).mono ?_
  rintro e wd ⟨rfl, m', rfl⟩
  go_wp2
  go_ret
  refine ⟨rfl, ?_⟩
  exact below_drewN (hba.trans (hbb.mono hba.size)) (m + m')

/-! ### THE ROW's STEP: WRITTEN OUT: LEAVE IT -/
set_option maxRecDepth 100000 in
theorem lifted (os : Os) (started : os.Started) (H : Type) (enc : TypeId × Value → H) :
    ReturnsInHanded {} Trym.checked os 5 .any (Rows.fnKeyOrdersAsValuesSpec.pre6 enc Trym.prog Trym.f5 Rows.fnKeyOrdersAsValuesRow.domain false) (Rows.fnKeyOrdersAsValuesSpec.post enc Trym.prog Trym.f5 false true false false) := by
  refine returnsInHanded_of_change (C := Trym.checked) own started (by kernel_rfl) Trym.func5
    (ChangeSpec.witness6 (enc := enc) (C := Trym.checked) false ⟨#[], #[.bool false, .string ByteArray.empty, .int .i64 0, .bool false, .string ByteArray.empty, .int .i64 0], []⟩ 8 (by kernel_rfl) (by kernel_rfl) (by kernel_rfl) (by kernel_rfl)) ?_
  intro W base args ds gs before hval0 hW hcnd _
  have hval : ∀ (j : Nat) t v, Trym.f5.params[j]? = some t → args[j]? = some v → Value.okWide Trym.prog W .any base t v := hval0
  have hW' := hW
  obtain ⟨p, q, hA0, hV, rfl, hfz, hnd⟩ := hW
  have hA : DataW.TrodAll enc Trym.prog W 0 (fun _ => true) true Trym.f5.params.toList args.toList ds p := hA0
  rw [Trym.params5] at hA hval
  obtain ⟨v0, vs0, d0, ds0, p0, q0, hargs, rfl, rfl, h0, r0⟩ := trodAll_cons hA
  obtain ⟨v1, vs1, d1, ds1, p1, q1, rfl, rfl, rfl, h1, r1⟩ := trodAll_cons r0
  obtain ⟨v2, vs2, d2, ds2, p2, q2, rfl, rfl, rfl, h2, r2⟩ := trodAll_cons r1
  obtain ⟨v3, vs3, d3, ds3, p3, q3, rfl, rfl, rfl, h3, r3⟩ := trodAll_cons r2
  obtain ⟨v4, vs4, d4, ds4, p4, q4, rfl, rfl, rfl, h4, r4⟩ := trodAll_cons r3
  obtain ⟨v5, vs5, d5, ds5, p5, q5, rfl, rfl, rfl, h5, r5⟩ := trodAll_cons r4
  obtain ⟨rfl, rfl, rfl⟩ := trodAll_nil r5
  obtain rfl : args = #[v0, v1, v2, v3, v4, v5] := by cases args; simp_all
  obtain ⟨rfl, rfl⟩ := trodVars_none hV
  obtain ⟨a0, rfl, rfl, rfl⟩ := open_bool Trym.underlying4 (hval 0 4 v0 rfl rfl) h0
  obtain ⟨a1, rfl, rfl, rfl, w1⟩ := open_string Trym.underlying9 (hval 1 9 v1 rfl rfl) h1
  obtain ⟨a2, rfl, rfl, rfl, w2⟩ := open_int Trym.underlying3 (hval 2 3 v2 rfl rfl) h2
  obtain ⟨a3, rfl, rfl, rfl⟩ := open_bool Trym.underlying4 (hval 3 4 v3 rfl rfl) h3
  obtain ⟨a4, rfl, rfl, rfl, w4⟩ := open_string Trym.underlying9 (hval 4 9 v4 rfl rfl) h4
  obtain ⟨a5, rfl, rfl, rfl, w5⟩ := open_int Trym.underlying3 (hval 5 3 v5 rfl rfl) h5
  clear hA0 hval0
  refine (walk a0 a1 a2 a3 a4 a5 w1 w2 w4 w5 W).mono fun e W' ⟨he, bel⟩ => ?_
  subst he
  exact ⟨_, rfl, _, _, _, [], _, [], hW', trodAll_mk1 (shut_bool Trym.underlying4 _), (trodAll_cons_mk (shut_bool Trym.underlying4 _) (trodAll_cons_mk (shut_string Trym.underlying9 w1) (trodAll_cons_mk (shut_int Trym.underlying3 w2) (trodAll_cons_mk (shut_bool Trym.underlying4 _) (trodAll_cons_mk (shut_string Trym.underlying9 w4) (trodAll_cons_mk (shut_int Trym.underlying3 w5) trodAll_mk0)))))), rfl, bel.frame _, fun h => by cases h⟩

theorem over : Rows.fnKeyOrdersAsValuesRow.holds Trym.pinned (OpenSpec.ofChange Rows.fnKeyOrdersAsValuesSpec) :=
  OpenClaim.holds_of_wide 5 Trym.f5 rfl rfl rfl rfl rfl rfl rfl ⟨rfl, rfl, rfl, rfl, rfl⟩ rfl rfl rfl rfl rfl (by kernel_rfl) Trym.func5 (by kernel_rfl)
    (of_decide_eq_true (by kernel_rfl)) (by unfold Func.isWrapper; first | (rw [if_pos (by decide +kernel)]; kernel_rfl) | (rw [if_neg (by decide +kernel)]; exact ⟨rfl, rfl⟩))
    (fun os started H enc _ => lifted os started H enc)

/-- ████ THE STATEMENT ████ -/
theorem proved : Rows.FnKeyOrdersAsValuesSaid :=
  over
#print axioms proved
end Go.Proofs.Qxb6003610aMods.fnKeyOrdersAsValues
