/-
  BYTES of a string against the plain laws' lists; the digit test's contract.
-/
import Derived.Test.Qxb6003610aModsRows
import Derived.Test.Qxb6003610aModsPlain
import Derived.WalkKit
import Derived.WalkSpells
import Derived.WalkLawsBesides
import Derived.Deep.DeepCutAuto
import Derived.Deep.CutBlock
import Derived.Deep.LoopGhost
import Derived.Deep.QuietTactic
import Derived.BigQuiet
import Derived.Deep.Light
import Derived.Lib.Strings
namespace Go.Proofs.Qxb6003610aMods
open Go.RowKit

theorem at_s (s : ByteArray) (k : Nat) (h : k < s.size) : s.data.toList.getD k 0 = s[k] := by
  have h' : k < s.data.toList.length := by simpa using h
  rw [List.getD_eq_getElem?_getD, List.getElem?_eq_getElem h']
  rfl
theorem len_s (s : ByteArray) : s.data.toList.length = s.size := by simp
theorem cd_s (s : ByteArray) (k : Nat) (h : k < s.size) : Num.cd s.data.toList k = s[k].toNat := by
  unfold Num.cd; rw [at_s s k h]
theorem sg_yes (s : ByteArray) (a : Nat) (h : a < s.size) (g : s[a].toNat = 43 ∨ s[a].toNat = 45) : Num.sg (s.data.toList.drop a) = 1 := by
  rw [Num.sg_at _ a (by rw [len_s]; exact h), cd_s s a h, if_pos g]
theorem sg_none (s : ByteArray) (a : Nat) (h : a < s.size) (g : ¬ s[a].toNat = 43) (g' : ¬ s[a].toNat = 45) : Num.sg (s.data.toList.drop a) = 0 := by
  rw [Num.sg_at _ a (by rw [len_s]; exact h), cd_s s a h, if_neg (by omega)]
theorem sg_past (s : ByteArray) (a : Nat) (h : s.size ≤ a) : Num.sg (s.data.toList.drop a) = 0 := Num.sg_out _ a (by rw [len_s]; exact h)
theorem ng_in (s : ByteArray) (a : Nat) (h : a < s.size) : Num.ng (s.data.toList.drop a) = ((s[a].toNat : Int) == 45) := by
  rw [Num.ng_at _ a (by rw [len_s]; exact h), cd_s s a h, Bool.eq_iff_iff]; simp; omega
theorem ng_past (s : ByteArray) (a : Nat) (h : s.size ≤ a) : Num.ng (s.data.toList.drop a) = false := Num.ng_out _ a (by rw [len_s]; exact h)
/-- There is a sign at place a, or none. -/
theorem sign_cases (s : ByteArray) (a : Nat) : (∃ h : a < s.size, (s[a].toNat = 43 ∨ s[a].toNat = 45) ∧ Num.sg (s.data.toList.drop a) = 1) ∨
    ((∀ h : a < s.size, ¬ s[a].toNat = 43 ∧ ¬ s[a].toNat = 45) ∧ Num.sg (s.data.toList.drop a) = 0 ∧ Num.ng (s.data.toList.drop a) = false) := by
  by_cases h : a < s.size
  · by_cases g : s[a].toNat = 43 ∨ s[a].toNat = 45
    · exact .inl ⟨h, g, sg_yes s a h g⟩
    · exact .inr ⟨fun _ => by omega, sg_none s a h (by omega) (by omega), by rw [ng_in s a h]; simp; omega⟩
  · exact .inr ⟨fun h' => absurd h' h, sg_past s a (by omega), ng_past s a (by omega)⟩

theorem isDigit_any (c : UInt8) (w : World) :
    Calls Trym.prog 18 #[.int .u8 (c.toNat : Int)] w fun e w' => e = .returned (.bool (Num.isD c)) ∧ w' = w := by
  unfold Num.isD
  by_cases h1 : 48 ≤ c.toNat
  · have h1' : (48 : Int) ≤ (c.toNat : Int) := by omega
    go_enter Trym.func18, Trym.ntmps18
    go_wp2
    go_ret
    refine ⟨?_, rfl⟩
    by_cases h2 : c.toNat ≤ 57
    · have h2' : (c.toNat : Int) ≤ 57 := by omega
      simp [h1, h2, h2']
    · have h2' : ¬ (c.toNat : Int) ≤ 57 := by omega
      simp [h2, h2']
  · have h1' : (c.toNat : Int) < 48 := by omega
    go_enter Trym.func18, Trym.ntmps18
    go_wp2
    go_ret
    exact ⟨by simp, rfl⟩

theorem ext_l (s : ByteArray) (a b : Nat) : (s.extract a b).data.toList = (s.data.toList.drop a).take (b - a) := Lib.extract_data s a b
theorem size_l (s : ByteArray) (l : List UInt8) (h : s.data.toList = l) : s.size = l.length := by rw [← h, len_s]
end Go.Proofs.Qxb6003610aMods
