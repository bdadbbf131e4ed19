/-
  THE WALK of zzCloneBytes.
-/
import Derived.Test.Qxb6003610aModsBase
import Derived.Test.Qxb6003610aModsOnto
namespace Go.Proofs.Qxb6003610aMods
open Go.RowKit

/-- The first k bytes of l, then zeros, n cells in all. -/
def fillTo (l : List UInt8) (n k : Nat) : List Value := bs (l.take k) ++ List.replicate (n - k) (.int .u8 0)
theorem fillTo_len (l : List UInt8) (n k : Nat) (hl : l.length = n) (hk : k ≤ n) : (fillTo l n k).length = n := by
  simp [fillTo, bs_len]; omega
theorem fillTo_all (l : List UInt8) (n : Nat) (hl : l.length = n) : fillTo l n n = bs l := by
  unfold fillTo; rw [List.take_of_length_le (by omega)]; simp
theorem bs_get (l : List UInt8) (k : Nat) (h : k < l.length) : (bs l)[k]? = some (.int .u8 (Num.cd l k)) := by
  simp [bs, Num.cd, List.getD_eq_getElem?_getD, h]
theorem fillTo_get (l : List UInt8) (n k : Nat) (hl : l.length = n) (hk : k < n) : (fillTo l n k)[k]? = some (.int .u8 0) := by
  have h1 : (bs (l.take k)).length = k := by rw [bs_len, List.length_take]; omega
  unfold fillTo
  rw [List.getElem?_append_right (by omega), h1, Nat.sub_self, show n - k = (n - (k + 1)) + 1 from by omega, List.replicate_succ]
  rfl
theorem fillTo_set (l : List UInt8) (n k : Nat) (hl : l.length = n) (hk : k < n) : (fillTo l n k).set k (.int .u8 (Num.cd l k)) = fillTo l n (k + 1) := by
  have h1 : (bs (l.take k)).length = k := by rw [bs_len, List.length_take]; omega
  unfold fillTo
  rw [List.set_append_right _ _ (by omega), h1, Nat.sub_self, show n - k = (n - (k + 1)) + 1 from by omega, List.replicate_succ, List.set_cons_zero]
  rw [List.take_succ_eq_append_getElem (by omega), bs_app]
  simp [bs, Num.cd, List.getD_eq_getElem?_getD, hl ▸ hk]

set_option maxRecDepth 100000 in
set_option maxHeartbeats 400000 in
theorem clone_nil (w : World) :
    Calls Trym.prog 11 #[.slice none 0 0] w fun e w' => e = .returned (.slice none 0 0) ∧ w' = w := by
  have hn := fun wx => Lib.run_eql_slice_nil (P := Trym.prog) wx 29 5 none 0 0 0 0 Trym.underlying29
  go_enter Trym.func11, Trym.ntmps11
  go_wp2
  go_ret
  exact ⟨rfl, rfl⟩

set_option maxRecDepth 100000 in
set_option maxHeartbeats 400000 in
theorem clone_empty (x : Addr) (cap : Nat) (w : World) :
    Calls Trym.prog 11 #[.slice (some x) 0 cap] w fun e w' => e = .returned (.slice (some ⟨w.heap.size, 0, none⟩) 0 0) ∧ w'.ownsRow w.heap.size 5 1 (.slice (some ⟨w.heap.size, 0, none⟩) 0 0) 0 (bs []) ∧ Below w.heap.size w w' := by
  have hnl := fun wx => Lib.run_eql_slice_nil (P := Trym.prog) wx 29 5 (some x) 0 cap 0 0 Trym.underlying29
  obtain ⟨i0, hi, hz0, hz1, hz2⟩ := info_parts Trym.info5
  go_enter Trym.func11, Trym.ntmps11
  go_wp2_with (at_make; refine wpList_make_full _ rfl _ _ 29 rfl w.heap.size 5 i0 (.int .u8 0) 1 Trym.underlying29 hi hz0 hz1 .i64 .i64 _ _ 0 rfl rfl (by omega) (by omega) (by rw [hz2]; omega) (by unfold maxLen; omega) (Nat.le_refl _) ?_; intro w1 hown hgrow)
  have hb1 : Below w.heap.size w w1 := (Below.refl _ _).grown hgrow (Nat.le_refl _) (fun k hk => by cases hk)
  have hz : (madeCells (Value.int .u8 0).cells (0 * 1)).toList = bs [] := by
    show (madeCells #[Value.int .u8 0] (0 * 1)).toList = _
    rw [toList_madeCells_one]; rfl
  rw [hz] at hown
  clear hgrow hz
  refine wp_loop_rounds 1 ?_
  rw [rounds_succ]
  go_wp2
  go_ret
  exact ⟨rfl, hown, hb1⟩

set_option maxRecDepth 100000 in
set_option maxHeartbeats 1000000 in
theorem clone_row (b off n cap : Nat) (l : List UInt8) (w : World) (hl : l.length = n) (hn : n ≤ 1048576) (hc : ∀ i, i < n → w.cell? ⟨b, off + i, none⟩ = some (.int .u8 (Num.cd l i))) :
    Calls Trym.prog 11 #[.slice (some ⟨b, off, none⟩) n cap] w fun e w' => e = .returned (.slice (some ⟨w.heap.size, 0, none⟩) n n) ∧ w'.ownsRow w.heap.size 5 1 (.slice (some ⟨w.heap.size, 0, none⟩) n n) n (bs l) ∧ Below w.heap.size w w' := by
  have hnl := fun wx => Lib.run_eql_slice_nil (P := Trym.prog) wx 29 5 (some ⟨b, off, none⟩) n cap 0 0 Trym.underlying29
  obtain ⟨i0, hi, hz0, hz1, hz2⟩ := info_parts Trym.info5
  go_enter Trym.func11, Trym.ntmps11
  go_wp2_with (at_make; refine wpList_make_full _ rfl _ _ 29 rfl w.heap.size 5 i0 (.int .u8 0) 1 Trym.underlying29 hi hz0 hz1 .i64 .i64 _ _ n rfl rfl (by omega) (by omega) (by rw [hz2]; omega) (by unfold maxLen; omega) (Nat.le_refl _) ?_; intro w1 hown hgrow)
  have hz : (madeCells (Value.int .u8 0).cells (n * 1)).toList = fillTo l n 0 := by
    unfold fillTo
    show (madeCells #[Value.int .u8 0] (n * 1)).toList = _
    rw [toList_madeCells_one]; simp [bs]
  rw [hz] at hown
  have hb1 : Below w.heap.size w w1 := (Below.refl _ _).grown hgrow (Nat.le_refl _) (fun k hk => by cases hk)
  clear hz hgrow
  go_loopw [4] (fun i wr => ∃ k : Nat, k ≤ n ∧ i = .int .i64 k ∧ wr.ownsRow w.heap.size 5 1 (.slice (some ⟨w.heap.size, 0, none⟩) n n) n (fillTo l n k) ∧ Below w.heap.size w wr) (fun i _ => n - (intOf i).toNat)
  case atStart => exact ⟨0, Nat.zero_le _, rfl, hown, hb1⟩
  case round =>
    obtain ⟨k, hk, rfl, hw, hb⟩ := hrel
    by_cases hlt : k < n
    · have h1 : wr.cell? ⟨b, off + k, none⟩ = some (.int .u8 (Num.cd l k)) := by
        rw [hb.cell (World.block_lt_of_cell? w _ (hc k hlt))]; exact hc k hlt
      have h2 := hw.cellAt k (by omega)
      rw [fillTo_get l n k hl hlt] at h2
      have h3 := hw.frozenAt k
      have HS : Hid ((wr.setCell ⟨w.heap.size, k, none⟩ (.int .u8 (Num.cd l k))).ownsRow w.heap.size 5 1 (.slice (some ⟨w.heap.size, 0, none⟩) n n) n (fillTo l n (k + 1))) := by
        have := (hw.stored k (.int .u8 (Num.cd l k))).1
        rw [fillTo_set l n k hl hlt] at this
        exact this
      clear hw
      go_wp2
      go_roundw
      case rel => exact ⟨k + 1, by omega, by go_num, HS.out, hb.setCell (Nat.le_refl _) _⟩
      case measure => simp [intOf]; omega
    · go_wp2
      go_ret
      obtain rfl : k = n := by omega
      exact ⟨rfl, by rw [fillTo_all l k hl] at hw; exact hw, hb⟩
end Go.Proofs.Qxb6003610aMods
