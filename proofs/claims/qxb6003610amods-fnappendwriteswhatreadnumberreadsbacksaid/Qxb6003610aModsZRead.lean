/-
  THE WALK of ZZreadNumber, which hands on to readNumber.
-/
import Derived.Test.Qxb6003610aModsRead
import Derived.RowKit3
namespace Go.Proofs.Qxb6003610aMods
open Go.RowKit

theorem grown_drewN {W w' : World} (h : Grown W w') (m : Nat) : Grown W (w'.drewN m) := h

set_option maxRecDepth 100000 in
set_option maxHeartbeats 400000 in
theorem zzread_any (s : ByteArray) (w : World) (hs : s.size ≤ 1048576) :
    Calls Trym.prog 7 #[.string s] w fun e w' => ∃ n d x o, e = .returned (.tuple #[.agg #[.bool n, .string d, .int .i64 x], .bool o]) ∧ Num.Says s.data.toList n d.data.toList x o ∧ Grown w w' ∧ Below w.heap.size w w' := by
  go_enter Trym.func7, Trym.ntmps7
  go_wp2_with fail
  refine (read_any s _ hs).mono ?_
  rintro e w' ⟨n, d, x, o, rfl, hS, c, m, rfl⟩
  go_wp2_with fail
  refine bodyPost_ret (v := .tuple #[.agg #[.bool n, .string d, .int .i64 x], .bool o]) (by simp [results, Trym.results7, go_sem]) rfl ⟨n, d, x, o, rfl, hS, ?_, ?_⟩
  · exact (((grown_drewN (((Grown.refl w).alloc _ _).alloc _ _) m).setCell (Nat.le_refl _) _).setCell (Nat.le_refl _) _).setCell (Nat.le_refl _) _
  · exact (((below_drewN (((Below.refl _ w).alloc (Nat.le_refl _) _).alloc (by simp) _) m).setCell (Nat.le_refl _) _).setCell (Nat.le_refl _) _).setCell (Nat.le_refl _) _

theorem bytes_ext {a b : ByteArray} (h : a.data.toList = b.data.toList) : a = b := ByteArray.ext (Array.toList_inj.1 h)
theorem Says_bad {l : List UInt8} {n : Bool} {d : List UInt8} {x : Int} (h : Num.Says l n d x false) : n = false ∧ d = [] ∧ x = 0 := by
  rcases h with ⟨_, b, c, d, _⟩ | ⟨_, _, h, _⟩ | ⟨_, _, _, _, h, _⟩
  · exact ⟨b, c, d⟩
  · cases h
  · cases h

end Go.Proofs.Qxb6003610aMods
