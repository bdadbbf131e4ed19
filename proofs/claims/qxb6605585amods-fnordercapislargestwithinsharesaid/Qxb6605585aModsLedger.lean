/-
  THE WALKS of the ledger's limits: cost, order's cap, most points, what is allowed; and the plain law that joins them.
-/
import Derived.Test.Qxb6605585aModsRows
import Derived.Test.Qxb6605585aModsPlain
import Derived.WalkKit
import Derived.WalkSpells
import Derived.WalkLawsBesides
import Derived.Deep.QuietTactic
import Derived.BigQuiet
namespace Go.Proofs.Qxb6605585aMods
open Go.RowKit

theorem ret_int {a b : Int} (h : a = b) : Ending.returned (.int .i64 a) = .returned (.int .i64 b) := by rw [h]
theorem ret_bool {a b : Bool} (h : a = b) : Ending.returned (.bool a) = .returned (.bool b) := by rw [h]

set_option maxRecDepth 100000 in
set_option maxHeartbeats 400000 in
theorem fits_any (n pv lim : Int) (w : World) (hp : 1 ≤ pv) (hl : 0 ≤ lim) (hl2 : lim ≤ 100000000000000000) :
    Calls Trym.prog 6 #[.int .i64 n, .int .i64 pv, .int .i64 lim] w fun e w' => e = .returned (.bool (Led.fits n pv lim)) ∧ w' = w := by
  by_cases h0 : n < 0
  · have H : Hid (Led.fits n pv lim = false) := Led.fits_neg n pv lim h0
    go_enter Trym.func6, Trym.ntmps6
    go_wp2
    go_ret
    exact ⟨ret_bool H.out.symm, rfl⟩
  by_cases h1 : n = 0
  · have H : Hid (Led.fits n pv lim = true) := Led.fits_zero n pv lim h1 hl
    have hb : (n == 0) = true := beq_iff_eq.2 h1
    clear h1
    go_enter Trym.func6, Trym.ntmps6
    go_wp2
    go_ret
    exact ⟨ret_bool H.out.symm, rfl⟩
  have hb : (n == 0) = false := beq_eq_false_iff_ne.2 h1
  by_cases h2 : lim / 100 < n
  · have H : Hid (Led.fits n pv lim = false) := Led.fits_big n pv lim hp hl h2
    go_enter Trym.func6, Trym.ntmps6
    go_wp2
    go_ret
    exact ⟨ret_bool H.out.symm, rfl⟩
  have hn : 0 < n := by omega
  have hn2 : n ≤ lim / 100 := by omega
  have hn3 : n * 100 ≤ 100000000000000000 := by omega
  have H : Hid (Led.fits n pv lim = decide (pv ≤ lim / (n * 100))) := Led.fits_quot n pv lim hn
  go_enter Trym.func6, Trym.ntmps6
  go_wp2
  go_ret
  exact ⟨ret_bool H.out.symm, rfl⟩

theorem cell_alloc_old {w : World} {a : Addr} {u : Value} (h : w.cell? a = some u) (o : Obj) : (w.alloc o).cell? a = some u := by
  have hlt := World.block_lt_of_cell? w a h
  rw [← h]
  exact World.cell?_of_block (w := w) (Below.heap_alloc w o a.block hlt)

set_option maxRecDepth 100000 in
set_option maxHeartbeats 400000 in
theorem cap_any (pv mb sub sh : Int) (b off : Nat) (mp : Option Addr) (w : World) (hc : w.cell? ⟨b, off, none⟩ = some (.int .i64 sh)) (hp : 1 ≤ pv) (hl : 0 ≤ sub * sh) (hl2 : sub * sh ≤ 100000000000000000) :
    Calls Trym.prog 9 #[.agg #[.int .i64 pv, .int .i64 mb, .pointer (some ⟨b, off, none⟩), .pointer mp], .int .i64 sub] w fun e w' => e = .returned (.int .i64 (Led.cap pv (sub * sh))) ∧ Below w.heap.size w w' := by
  have HC : Hid (Led.cap pv (sub * sh) = sub * sh / 100 / pv) := rfl
  have hc' := fun o => cell_alloc_old hc o
  have hq := Int.ediv_le_self (a := sub * sh / 100) pv (by omega)
  have hq0 : 0 ≤ sub * sh / 100 / pv := Int.ediv_nonneg (by omega) (by omega)
  go_enter Trym.func9, Trym.ntmps9
  go_wp2
  go_quiet (fail)
  go_wp2
  go_ret
  exact ⟨ret_int HC.out.symm, below_drewN ((Below.refl _ _).alloc (Nat.le_refl _) _) _⟩

set_option maxRecDepth 100000 in
set_option maxHeartbeats 400000 in
theorem zzcap_any (pv mb sub sh : Int) (b off : Nat) (mp : Option Addr) (w : World) (hc : w.cell? ⟨b, off, none⟩ = some (.int .i64 sh)) (hp : 1 ≤ pv) (hl : 0 ≤ sub * sh) (hl2 : sub * sh ≤ 100000000000000000) :
    Calls Trym.prog 5 #[.int .i64 pv, .int .i64 mb, .pointer (some ⟨b, off, none⟩), .pointer mp, .int .i64 sub] w fun e w' => e = .returned (.int .i64 (Led.cap pv (sub * sh))) ∧ Below w.heap.size w w' := by
  go_enter Trym.func5, Trym.ntmps5
  go_wp2_with fail
  refine (cap_any pv mb sub sh b off mp _ hc hp hl hl2).mono ?_
  rintro e w1 ⟨rfl, hb⟩
  go_wp2
  go_ret
  exact ⟨rfl, hb⟩

set_option maxRecDepth 100000 in
set_option maxHeartbeats 400000 in
theorem max_low (pv mb bal sub : Int) (p mp : Option Addr) (w : World) (h : bal < mb) :
    Calls Trym.prog 10 #[.agg #[.int .i64 pv, .int .i64 mb, .pointer p, .pointer mp], .int .i64 bal, .int .i64 sub] w fun e w' => e = .returned (.int .i64 0) ∧ Below w.heap.size w w' := by
  go_enter Trym.func10, Trym.ntmps10
  go_wp2
  go_ret
  exact ⟨rfl, (Below.refl _ _).alloc (Nat.le_refl _) _⟩

theorem box_cells {w W : World} {v0 v1 v2 v3 : Value} (hb : Below (w.heap.size + 1) (w.alloc (.cells #[v0, v1, v2, v3] 30)) W) : W.cell? ⟨w.heap.size, 3, none⟩ = some v3 :=
  (hb.cell (p := ⟨w.heap.size, 3, none⟩) (by simp)).trans (by simp)

set_option maxRecDepth 100000 in
set_option maxHeartbeats 400000 in
theorem max_none (pv mb bal sub sh : Int) (b off : Nat) (w : World) (hc : w.cell? ⟨b, off, none⟩ = some (.int .i64 sh)) (hp : 1 ≤ pv) (hl : 0 ≤ sub * sh) (hl2 : sub * sh ≤ 100000000000000000) (h : ¬ bal < mb) :
    Calls Trym.prog 10 #[.agg #[.int .i64 pv, .int .i64 mb, .pointer (some ⟨b, off, none⟩), .pointer none], .int .i64 bal, .int .i64 sub] w fun e w' =>
      e = .returned (.int .i64 (max (min bal (Led.cap pv (sub * sh))) 0)) ∧ Below w.heap.size w w' := by
  go_enter Trym.func10, Trym.ntmps10
  go_wp2_with fail
  refine (cap_any pv mb sub sh b off none _ (cell_alloc_old hc _) hp hl hl2).mono ?_
  rintro e w1 ⟨rfl, hb⟩
  have c3 := box_cells (hb.mono (by simp))
  have BW : Hid (Below w.heap.size w w1) := ((Below.refl _ w).alloc (Nat.le_refl _) _).trans (hb.mono (by simp))
  clear hb
  generalize hcc : Led.cap pv (sub * sh) = c
  have HCC : Hid (Led.cap pv (sub * sh) = c) := hcc
  clear hcc
  by_cases g1 : c < bal
  · by_cases g2 : c < 0
    all_goals
      go_wp2
      go_ret
      exact ⟨ret_int (by rw [HCC.out]; omega), BW.out⟩
  · by_cases g2 : bal < 0
    all_goals
      go_wp2
      go_ret
      exact ⟨ret_int (by rw [HCC.out]; omega), BW.out⟩

set_option maxRecDepth 100000 in
set_option maxHeartbeats 1000000 in
theorem max_some (pv mb bal sub sh m : Int) (b off b' off' : Nat) (w : World) (hc : w.cell? ⟨b, off, none⟩ = some (.int .i64 sh)) (hm : w.cell? ⟨b', off', none⟩ = some (.int .i64 m)) (hp : 1 ≤ pv) (hl : 0 ≤ sub * sh) (hl2 : sub * sh ≤ 100000000000000000) (h : ¬ bal < mb) :
    Calls Trym.prog 10 #[.agg #[.int .i64 pv, .int .i64 mb, .pointer (some ⟨b, off, none⟩), .pointer (some ⟨b', off', none⟩)], .int .i64 bal, .int .i64 sub] w fun e w' =>
      e = .returned (.int .i64 (max (min (min bal (Led.cap pv (sub * sh))) m) 0)) ∧ Below w.heap.size w w' := by
  go_enter Trym.func10, Trym.ntmps10
  go_wp2_with fail
  refine (cap_any pv mb sub sh b off (some ⟨b', off', none⟩) _ (cell_alloc_old hc _) hp hl hl2).mono ?_
  rintro e w1 ⟨rfl, hb⟩
  have c3 := box_cells (hb.mono (by simp))
  have BW : Hid (Below w.heap.size w w1) := ((Below.refl _ w).alloc (Nat.le_refl _) _).trans (hb.mono (by simp))
  have hm1 : w1.cell? ⟨b', off', none⟩ = some (.int .i64 m) := by
    rw [BW.out.cell (World.block_lt_of_cell? w _ hm)]; exact hm
  clear hb
  generalize hcc : Led.cap pv (sub * sh) = c
  have HCC : Hid (Led.cap pv (sub * sh) = c) := hcc
  clear hcc
  by_cases g1 : c < bal
  · by_cases g3 : m < c
    · by_cases g2 : m < 0
      all_goals
        go_wp2
        go_ret
        exact ⟨ret_int (by rw [HCC.out]; omega), BW.out⟩
    · by_cases g2 : c < 0
      all_goals
        go_wp2
        go_ret
        exact ⟨ret_int (by rw [HCC.out]; omega), BW.out⟩
  · by_cases g3 : m < bal
    · by_cases g2 : m < 0
      all_goals
        go_wp2
        go_ret
        exact ⟨ret_int (by rw [HCC.out]; omega), BW.out⟩
    · by_cases g2 : bal < 0
      all_goals
        go_wp2
        go_ret
        exact ⟨ret_int (by rw [HCC.out]; omega), BW.out⟩

/-- What a member may redeem. -/
def maxp (bal mb c : Int) (m : Option Int) : Int := if bal < mb then 0 else match m with
  | none => max (min bal c) 0
  | some m => max (min (min bal c) m) 0
/-- A pointer to an integer, or nil. -/
def PtrTo (w : World) (p : Option Addr) (m : Option Int) : Prop := (p = none ∧ m = none) ∨ ∃ b off n, p = some ⟨b, off, none⟩ ∧ m = some n ∧ w.cell? ⟨b, off, none⟩ = some (.int .i64 n)
theorem PtrTo.below {w w' : World} {p : Option Addr} {m : Option Int} (h : PtrTo w p m) (hb : Below w.heap.size w w') : PtrTo w' p m := by
  rcases h with h | ⟨b, off, n, h1, h2, h3⟩
  · exact .inl h
  · exact .inr ⟨b, off, n, h1, h2, by rw [hb.cell (World.block_lt_of_cell? w _ h3)]; exact h3⟩

set_option maxRecDepth 100000 in
theorem zzmax_any (pv mb bal sub sh : Int) (b off : Nat) (p : Option Addr) (m : Option Int) (w : World) (hc : w.cell? ⟨b, off, none⟩ = some (.int .i64 sh)) (hm : PtrTo w p m) (hp : 1 ≤ pv) (hl : 0 ≤ sub * sh) (hl2 : sub * sh ≤ 100000000000000000) :
    Calls Trym.prog 7 #[.int .i64 pv, .int .i64 mb, .pointer (some ⟨b, off, none⟩), .pointer p, .int .i64 bal, .int .i64 sub] w fun e w' =>
      e = .returned (.int .i64 (maxp bal mb (Led.cap pv (sub * sh)) m)) ∧ Below w.heap.size w w' := by
  by_cases h : bal < mb
  · have HX : Hid (maxp bal mb (Led.cap pv (sub * sh)) m = 0) := by show _ = _; unfold maxp; rw [if_pos h]
    go_enter Trym.func7, Trym.ntmps7
    go_wp2_with fail
    refine (max_low pv mb bal sub (some ⟨b, off, none⟩) p _ h).mono ?_
    rintro e w1 ⟨rfl, hb⟩
    go_wp2
    go_ret
    exact ⟨ret_int HX.out.symm, hb⟩
  rcases hm with ⟨rfl, rfl⟩ | ⟨b', off', n, rfl, rfl, hm⟩
  · have HX : Hid (maxp bal mb (Led.cap pv (sub * sh)) none = max (min bal (Led.cap pv (sub * sh))) 0) := by show _ = _; unfold maxp; rw [if_neg h]
    go_enter Trym.func7, Trym.ntmps7
    go_wp2_with fail
    refine (max_none pv mb bal sub sh b off _ hc hp hl hl2 (by omega)).mono ?_
    rintro e w1 ⟨rfl, hb⟩
    rw [← HX.out]
    go_wp2
    go_ret
    exact ⟨rfl, hb⟩
  · have HX : Hid (maxp bal mb (Led.cap pv (sub * sh)) (some n) = max (min (min bal (Led.cap pv (sub * sh))) n) 0) := by show _ = _; unfold maxp; rw [if_neg h]
    go_enter Trym.func7, Trym.ntmps7
    go_wp2_with fail
    refine (max_some pv mb bal sub sh n b off b' off' _ hc hm hp hl hl2 (by omega)).mono ?_
    rintro e w1 ⟨rfl, hb⟩
    rw [← HX.out]
    go_wp2
    go_ret
    exact ⟨rfl, hb⟩

/-- What is allowed. -/
def allow (n bal : Int) (m : Option Int) (pv lim : Int) : Bool := !decide (bal < n) && ((match m with
  | none => true
  | some m => !decide (m < n)) && Led.fits n pv lim)

set_option maxRecDepth 100000 in
set_option maxHeartbeats 400000 in
theorem allow_any (n bal : Int) (p : Option Addr) (m : Option Int) (pv lim : Int) (w : World) (hm : PtrTo w p m) (hp : 1 ≤ pv) (hl : 0 ≤ lim) (hl2 : lim ≤ 100000000000000000) :
    Calls Trym.prog 8 #[.int .i64 n, .int .i64 bal, .pointer p, .int .i64 pv, .int .i64 lim] w fun e w' => e = .returned (.bool (allow n bal m pv lim)) ∧ w' = w := by
  by_cases h1 : bal < n
  · have HX : Hid (allow n bal m pv lim = false) := by show _ = _; unfold allow; rw [decide_eq_true h1]; rfl
    go_enter Trym.func8, Trym.ntmps8
    go_wp2
    go_ret
    exact ⟨ret_bool HX.out.symm, rfl⟩
  rcases hm with ⟨rfl, rfl⟩ | ⟨b', off', k, rfl, rfl, hm⟩
  · have HX : Hid (allow n bal none pv lim = Led.fits n pv lim) := by show _ = _; unfold allow; rw [decide_eq_false h1]; rfl
    go_enter Trym.func8, Trym.ntmps8
    go_wp2_with (go_at_call 6; refine (fits_any _ _ _ _ hp hl hl2).mono ?_; rintro e w1 ⟨rfl, rfl⟩)
    go_ret
    exact ⟨ret_bool HX.out.symm, rfl⟩
  by_cases h2 : k < n
  · have HX : Hid (allow n bal (some k) pv lim = false) := by show (!decide (bal < n) && (!decide (k < n) && Led.fits n pv lim)) = _; rw [decide_eq_false h1, decide_eq_true h2]; rfl
    go_enter Trym.func8, Trym.ntmps8
    go_wp2
    go_ret
    exact ⟨ret_bool HX.out.symm, rfl⟩
  · have HX : Hid (allow n bal (some k) pv lim = Led.fits n pv lim) := by show (!decide (bal < n) && (!decide (k < n) && Led.fits n pv lim)) = _; rw [decide_eq_false h1, decide_eq_false h2]; rfl
    go_enter Trym.func8, Trym.ntmps8
    go_wp2_with (go_at_call 6; refine (fits_any _ _ _ _ hp hl hl2).mono ?_; rintro e w1 ⟨rfl, rfl⟩)
    go_ret
    exact ⟨ret_bool HX.out.symm, rfl⟩

/-! ### the plain law -/
theorem maxp_low (bal mb c : Int) (m : Option Int) (h : bal < mb) : maxp bal mb c m = 0 := by unfold maxp; rw [if_pos h]
theorem maxp_bd (bal mb c : Int) (m : Option Int) (hc : 0 ≤ c) : 0 ≤ maxp bal mb c m ∧ maxp bal mb c m ≤ c := by
  unfold maxp
  split
  · omega
  · cases m <;> simp <;> omega
/-- What it answers is allowed, if it is positive. -/
theorem maxp_ok (bal mb : Int) (m : Option Int) (pv lim : Int) (hp : 1 ≤ pv) (h : 0 < maxp bal mb (Led.cap pv lim) m) (hb : ¬ bal < mb) : allow (maxp bal mb (Led.cap pv lim) m) bal m pv lim = true := by
  have hf := Led.fits_iff (maxp bal mb (Led.cap pv lim) m) pv lim hp (by omega)
  unfold allow
  rw [hf]
  generalize Led.cap pv lim = c at *
  unfold maxp at *
  rw [if_neg hb] at *
  cases m <;> simp at * <;> omega
/-- One more is not. -/
theorem maxp_more (bal mb : Int) (m : Option Int) (pv lim : Int) (hp : 1 ≤ pv) (hl : 0 ≤ lim) (hb : ¬ bal < mb) : allow (maxp bal mb (Led.cap pv lim) m + 1) bal m pv lim = false := by
  have hc := Led.cap_nonneg pv lim hp hl
  have hbd := maxp_bd bal mb (Led.cap pv lim) m hc
  have hf := Led.fits_iff (maxp bal mb (Led.cap pv lim) m + 1) pv lim hp (by omega)
  unfold allow
  rw [hf]
  generalize Led.cap pv lim = c at *
  unfold maxp at *
  rw [if_neg hb] at *
  cases m <;> simp at * <;> omega
end Go.Proofs.Qxb6605585aMods
