/-
  THE PROOF OF 'Rows.FnMaxPointsIsGreatestAllowedSaid': the frame after the shells of this set (proof-skeleton.mjs), two parameters being pointers to integers; the walk goes by the contracts of maxPoints and of what is allowed and by the plain law that the one is the greatest of the other.
-/
import Derived.Test.Qxb6605585aModsRows
import Derived.Test.Qxb6605585aModsLedger
import Derived.WalkKit
import Derived.ProofKit
import Derived.OpenShut
import Derived.ShutString
import Derived.ChangeOld
import Derived.Below
namespace Go.Proofs.Qxb6605585aMods.fnMaxPointsIsGreatestAllowed
open Go.ChangeShapes Go.WideShapes Go.ChangeAt Go.RowKit
set_option linter.unusedVariables false

theorem own : ownKnob Trym.prog.godebug = none := by kernel_rfl
theorem laidOut : laidOutB Trym.prog = true := by kernel_rfl
theorem cells2 : Trym.prog.cellsOf 2 = 1 := by kernel_rfl

/-! ### THE WALK: the Go text returns true, and writes nothing that was there. -/
set_option maxRecDepth 100000 in
set_option maxHeartbeats 2000000 in
theorem walk (pv mb : Int) (p q : Option Addr) (ms mp : Option Int) (bal sub : Int) (w : World) (hs : PtrTo w p ms) (hm : PtrTo w q mp) :
    Calls Trym.prog 4 #[.int .i64 pv, .int .i64 mb, .pointer p, .pointer q, .int .i64 bal, .int .i64 sub] w fun e w' => e = .returned (.bool true) ∧ Below w.heap.size w w' := by
  rcases hs with ⟨rfl, rfl⟩ | ⟨b, off, sh, rfl, rfl, hc⟩
  · go_enter Trym.func4, Trym.ntmps4
    go_wp2
    go_ret
    exact ⟨rfl, Below.refl _ _⟩
  by_cases g1 : sh < 0
  · go_enter Trym.func4, Trym.ntmps4
    go_wp2
    go_ret
    exact ⟨rfl, Below.refl _ _⟩
  by_cases g2 : 100 < sh
  · go_enter Trym.func4, Trym.ntmps4
    go_wp2
    go_ret
    exact ⟨rfl, Below.refl _ _⟩
  by_cases g3 : pv < 1
  · go_enter Trym.func4, Trym.ntmps4
    go_wp2
    go_ret
    exact ⟨rfl, Below.refl _ _⟩
  by_cases g4 : sub < 0
  · go_enter Trym.func4, Trym.ntmps4
    go_wp2
    go_ret
    exact ⟨rfl, Below.refl _ _⟩
  by_cases g5 : 1000000000000000 < sub
  · go_enter Trym.func4, Trym.ntmps4
    go_wp2
    go_ret
    exact ⟨rfl, Below.refl _ _⟩
  have hp : 1 ≤ pv := by omega
  obtain ⟨hl, hl2⟩ := Led.lim_bd sub sh (by omega) (by omega) (by omega) (by omega)
  have hc0 := Led.cap_nonneg pv (sub * sh) hp hl
  have hc1 : Led.cap pv (sub * sh) ≤ 1000000000000000 := by have := Led.cap_le pv (sub * sh) hl; omega
  have hM := maxp_bd bal mb (Led.cap pv (sub * sh)) mp hc0
  have HL : Hid (bal < mb → maxp bal mb (Led.cap pv (sub * sh)) mp = 0) := fun h => maxp_low _ _ _ _ h
  have HO : Hid (0 < maxp bal mb (Led.cap pv (sub * sh)) mp → ¬ bal < mb → allow (maxp bal mb (Led.cap pv (sub * sh)) mp) bal mp pv (sub * sh) = true) := fun h h' => maxp_ok bal mb mp pv (sub * sh) hp h h'
  have HN : Hid (¬ bal < mb → allow (maxp bal mb (Led.cap pv (sub * sh)) mp + 1) bal mp pv (sub * sh) = false) := fun h => maxp_more bal mb mp pv (sub * sh) hp hl h
  -- the copies: the world in which the rule is asked, and what holds of it
  have rest : ∀ (W : World) (q' : Option Addr), Below w.heap.size w W → PtrTo W q' mp → ∀ w1, Below W.heap.size W w1 → PtrTo w1 q' mp ∧ Below w.heap.size w w1 := fun W q' h1 h2 w1 h3 => ⟨h2.below h3, h1.trans (h3.mono h1.size)⟩
  rcases hm with ⟨rfl, rfl⟩ | ⟨b', off', m, rfl, rfl, hm⟩
  · go_enter Trym.func4, Trym.ntmps4
    go_wp2_with fail
    refine (zzmax_any pv mb bal sub sh w.heap.size 0 none none _ (by simp) (.inl ⟨rfl, rfl⟩) hp hl hl2).mono ?_
    rintro e w1 ⟨rfl, hb⟩
    obtain ⟨hP, hB⟩ := rest _ none ((Below.refl _ w).alloc (Nat.le_refl _) _) (.inl ⟨rfl, rfl⟩) w1 hb
    clear rest hb hc
    generalize maxp bal mb (Led.cap pv (sub * sh)) none = g at hM HL HO HN ⊢
    by_cases k1 : bal < mb
    · obtain rfl := HL.out k1
      clear HL HO HN hM hP
      go_wp2
      go_ret
      exact ⟨rfl, hB⟩
    by_cases k2 : 0 < g
    · have HO' : Hid (allow g bal none pv (sub * sh) = true) := HO.out k2 (by omega)
      have HN' : Hid (allow (g + 1) bal none pv (sub * sh) = false) := HN.out (by omega)
      clear HL HO HN
      go_wp2_with fail
      refine (allow_any _ _ _ none _ _ _ hP hp hl hl2).mono ?_
      rintro e w2 ⟨rfl, rfl⟩
      rw [HO'.out]
      go_wp2_with fail
      refine (allow_any _ _ _ none _ _ _ hP hp hl hl2).mono ?_
      rintro e w3 ⟨rfl, rfl⟩
      rw [HN'.out]
      go_wp2
      go_ret
      exact ⟨rfl, hB⟩
    · have HN' : Hid (allow (g + 1) bal none pv (sub * sh) = false) := HN.out (by omega)
      clear HL HO HN
      go_wp2_with fail
      refine (allow_any _ _ _ none _ _ _ hP hp hl hl2).mono ?_
      rintro e w3 ⟨rfl, rfl⟩
      rw [HN'.out]
      go_wp2
      go_ret
      exact ⟨rfl, hB⟩
  · have hm' := fun o => cell_alloc_old hm o
    go_enter Trym.func4, Trym.ntmps4
    go_wp2_with fail
    refine (zzmax_any pv mb bal sub sh w.heap.size 0 (some ⟨w.heap.size + 1, 0, none⟩) (some m) _ (by simp) (.inr ⟨_, _, _, rfl, rfl, by simp⟩) hp hl hl2).mono ?_
    rintro e w1 ⟨rfl, hb⟩
    obtain ⟨hP, hB⟩ := rest _ (some ⟨w.heap.size + 1, 0, none⟩) (((Below.refl _ w).alloc (Nat.le_refl _) _).alloc (by simp) _) (.inr ⟨_, _, m, rfl, rfl, by simp⟩) w1 hb
    clear rest hb hc
    generalize maxp bal mb (Led.cap pv (sub * sh)) (some m) = g at hM HL HO HN ⊢
    by_cases k1 : bal < mb
    · obtain rfl := HL.out k1
      clear HL HO HN hM hP
      go_wp2
      go_ret
      exact ⟨rfl, hB⟩
    by_cases k2 : 0 < g
    · have HO' : Hid (allow g bal (some m) pv (sub * sh) = true) := HO.out k2 (by omega)
      have HN' : Hid (allow (g + 1) bal (some m) pv (sub * sh) = false) := HN.out (by omega)
      clear HL HO HN
      go_wp2_with fail
      refine (allow_any _ _ _ (some m) _ _ _ hP hp hl hl2).mono ?_
      rintro e w2 ⟨rfl, rfl⟩
      rw [HO'.out]
      go_wp2_with fail
      refine (allow_any _ _ _ (some m) _ _ _ hP hp hl hl2).mono ?_
      rintro e w3 ⟨rfl, rfl⟩
      rw [HN'.out]
      go_wp2
      go_ret
      exact ⟨rfl, hB⟩
    · have HN' : Hid (allow (g + 1) bal (some m) pv (sub * sh) = false) := HN.out (by omega)
      clear HL HO HN
      go_wp2_with fail
      refine (allow_any _ _ _ (some m) _ _ _ hP hp hl hl2).mono ?_
      rintro e w3 ⟨rfl, rfl⟩
      rw [HN'.out]
      go_wp2
      go_ret
      exact ⟨rfl, hB⟩

/-! ### THE ROW's STEP -/
set_option maxRecDepth 100000 in
theorem lifted (os : Os) (started : os.Started) (H : Type) (enc : TypeId × Value → H) :
    ReturnsInHanded {} Trym.checked os 4 .any (Rows.fnMaxPointsIsGreatestAllowedSpec.pre6 enc Trym.prog Trym.f4 Rows.fnMaxPointsIsGreatestAllowedRow.domain false) (Rows.fnMaxPointsIsGreatestAllowedSpec.post enc Trym.prog Trym.f4 false true false false) := by
  refine returnsInHanded_of_change (C := Trym.checked) own started (by kernel_rfl) Trym.func4
    (ChangeSpec.witness6 (enc := enc) (C := Trym.checked) false ⟨#[], #[.int .i64 0, .int .i64 0, .pointer none, .pointer none, .int .i64 0, .int .i64 0], []⟩ 8 (by kernel_rfl) (by kernel_rfl) (by kernel_rfl) (by kernel_rfl)) ?_
  intro W base args ds gs before hval0 hW hcnd _
  have hval : ∀ (j : Nat) t v, Trym.f4.params[j]? = some t → args[j]? = some v → Value.okWide Trym.prog W .any base t v := hval0
  have hW' := hW
  obtain ⟨p, q, hA0, hV, rfl, hfz, hnd⟩ := hW
  have hA : DataW.TrodAll enc Trym.prog W 0 (fun _ => true) true Trym.f4.params.toList args.toList ds p := hA0
  rw [Trym.params4] at hA hval
  obtain ⟨v0, vs0, d0, ds0, p0, q0, hargs, rfl, rfl, h0, r0⟩ := trodAll_cons hA
  obtain ⟨v1, vs1, d1, ds1, p1, q1, rfl, rfl, rfl, h1, r1⟩ := trodAll_cons r0
  obtain ⟨v2, vs2, d2, ds2, p2, q2, rfl, rfl, rfl, h2, r2⟩ := trodAll_cons r1
  obtain ⟨v3, vs3, d3, ds3, p3, q3, rfl, rfl, rfl, h3, r3⟩ := trodAll_cons r2
  obtain ⟨v4, vs4, d4, ds4, p4, q4, rfl, rfl, rfl, h4, r4⟩ := trodAll_cons r3
  obtain ⟨v5, vs5, d5, ds5, p5, q5, rfl, rfl, rfl, h5, r5⟩ := trodAll_cons r4
  obtain ⟨rfl, rfl, rfl⟩ := trodAll_nil r5
  obtain rfl : args = #[v0, v1, v2, v3, v4, v5] := by cases args; simp_all
  obtain ⟨rfl, rfl⟩ := trodVars_none hV
  obtain ⟨a0, rfl, rfl, rfl, w0⟩ := open_int Trym.underlying2 (hval 0 2 v0 rfl rfl) h0
  obtain ⟨a1, rfl, rfl, rfl, w1⟩ := open_int Trym.underlying2 (hval 1 2 v1 rfl rfl) h1
  have k2 := h2
  have lt2 : ∀ x ∈ p2, x.block < W.heap.size := by obtain ⟨m, hm⟩ := k2; exact DataW.trod_lt m _ _ _ hm
  obtain ⟨a2, m2, hv2, w2⟩ : ∃ (q : Option Addr) (m : Option Int), v2 = .pointer q ∧ PtrTo W q m := by
    rcases open_ptr_int Trym.underlying22 Trym.underlying2 cells2 (hval 2 22 v2 rfl rfl) h2 with ⟨h, _, _⟩ | ⟨b, off, n, h, _, _, hcell, _⟩
    · exact ⟨none, none, h, .inl ⟨rfl, rfl⟩⟩
    · exact ⟨some ⟨b, off, none⟩, some n, h, .inr ⟨b, off, n, rfl, rfl, hcell⟩⟩
  subst hv2
  have k3 := h3
  have lt3 : ∀ x ∈ p3, x.block < W.heap.size := by obtain ⟨m, hm⟩ := k3; exact DataW.trod_lt m _ _ _ hm
  obtain ⟨a3, m3, hv3, w3⟩ : ∃ (q : Option Addr) (m : Option Int), v3 = .pointer q ∧ PtrTo W q m := by
    rcases open_ptr_int Trym.underlying22 Trym.underlying2 cells2 (hval 3 22 v3 rfl rfl) h3 with ⟨h, _, _⟩ | ⟨b, off, n, h, _, _, hcell, _⟩
    · exact ⟨none, none, h, .inl ⟨rfl, rfl⟩⟩
    · exact ⟨some ⟨b, off, none⟩, some n, h, .inr ⟨b, off, n, rfl, rfl, hcell⟩⟩
  subst hv3
  obtain ⟨a4, rfl, rfl, rfl, w4⟩ := open_int Trym.underlying2 (hval 4 2 v4 rfl rfl) h4
  obtain ⟨a5, rfl, rfl, rfl, w5⟩ := open_int Trym.underlying2 (hval 5 2 v5 rfl rfl) h5
  clear hA0 hval0
  refine (walk a0 a1 a2 a3 m2 m3 a4 a5 W w2 w3).mono fun e W' ⟨he, bel⟩ => ?_
  subst he
  exact ⟨_, rfl, _, _, _, [], _, [], hW', trodAll_mk1 (shut_bool Trym.underlying4 _), (trodAll_cons_mk (shut_int Trym.underlying2 w0) (trodAll_cons_mk (shut_int Trym.underlying2 w1) (trodAll_cons_mk (Below.trod laidOut (by kernel_rfl) (of_decide_eq_true (by kernel_rfl)) k2 bel lt2) (trodAll_cons_mk (Below.trod laidOut (by kernel_rfl) (of_decide_eq_true (by kernel_rfl)) k3 bel lt3) (trodAll_cons_mk (shut_int Trym.underlying2 w4) (trodAll_cons_mk (shut_int Trym.underlying2 w5) trodAll_mk0)))))), rfl, bel.frame _, fun h => by cases h⟩

theorem over : Rows.fnMaxPointsIsGreatestAllowedRow.holds Trym.pinned (OpenSpec.ofChange Rows.fnMaxPointsIsGreatestAllowedSpec) :=
  OpenClaim.holds_of_wide 4 Trym.f4 rfl rfl rfl rfl rfl rfl rfl ⟨rfl, rfl, rfl, rfl, rfl⟩ rfl rfl rfl rfl rfl (by kernel_rfl) Trym.func4 (by kernel_rfl)
    (of_decide_eq_true (by kernel_rfl)) (by unfold Func.isWrapper; first | (rw [if_pos (by decide +kernel)]; kernel_rfl) | (rw [if_neg (by decide +kernel)]; exact ⟨rfl, rfl⟩))
    (fun os started H enc _ => lifted os started H enc)

/-- THE STATEMENT. -/
theorem proved : Rows.FnMaxPointsIsGreatestAllowedSaid := over
#print axioms proved
end Go.Proofs.Qxb6605585aMods.fnMaxPointsIsGreatestAllowed
