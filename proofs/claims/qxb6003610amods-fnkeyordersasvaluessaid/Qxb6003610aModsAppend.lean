/-
  THE WALK of Number.Append: it adds the number's text behind what was there.
-/
import Derived.Test.Qxb6003610aModsCanon
import Derived.Test.Qxb6003610aModsOnto
namespace Go.Proofs.Qxb6003610aMods
open Go.RowKit

/-- The receiver's block reads as it was laid. -/
theorem box_cells {w W : World} {neg : Bool} {d : ByteArray} {x : Int} (hb : Below (w.heap.size + 1) (w.alloc (.cells #[.bool neg, .string d, .int .i64 x] 24)) W) :
    W.cell? ⟨w.heap.size, 0, none⟩ = some (.bool neg) ∧ W.cell? ⟨w.heap.size, 1, none⟩ = some (.string d) ∧ W.cell? ⟨w.heap.size, 2, none⟩ = some (.int .i64 x) := by
  refine ⟨(hb.cell (p := ⟨w.heap.size, 0, none⟩) (by simp)).trans ?_, (hb.cell (p := ⟨w.heap.size, 1, none⟩) (by simp)).trans ?_, (hb.cell (p := ⟨w.heap.size, 2, none⟩) (by simp)).trans ?_⟩ <;> simp

theorem take_rest (l : List UInt8) (k n : Nat) (h : l.length = n) : (l.drop k).take (n - k) = l.drop k := List.take_of_length_le (by rw [List.length_drop]; omega)
theorem more_zero (L : List UInt8) (K k : Nat) (h0 : 0 < k) (hk : k ≤ K) : L ++ List.replicate (K - k) (48 : UInt8) ++ [48] = L ++ List.replicate (K - (k - 1)) 48 := by
  rw [show K - (k - 1) = (K - k) + 1 from by omega, List.replicate_succ']; simp

set_option maxRecDepth 100000 in
set_option maxHeartbeats 1000000 in
theorem append_zero (neg : Bool) (d : ByteArray) (x : Int) (v : Value) (l : List UInt8) (w : World) (hf : Full w v l.length (bs l)) (hd : d.size = 0) (hn : l.length ≤ 1048576) :
    Calls Trym.prog 12 #[.agg #[.bool neg, .string d, .int .i64 x], v] w fun e w' => ∃ v', e = .returned v' ∧ Own w.heap.size w' v' (l ++ [48]) ∧ Below w.heap.size w w' := by
  have hE := (empty_iff d).2 hd
  go_enter Trym.func12, Trym.ntmps12
  go_wp2_with (at_builtin; refine wpList_bytes _ rfl (.tmp 11) (.tmp 12) rfl w.heap.size (by simp; omega) v l rfl (.inr ((hf.alloc _).alloc _)) ⟨w.heap.size + 1, 0, none⟩ 1 1 [48] rfl rfl (one_news _ _ _ (by simp)) (by decide) (by omega) ?_; intro v' w' h1 h2)
  go_ret
  exact ⟨_, rfl, h1, (((Below.refl _ w).alloc (Nat.le_refl _) _).alloc (by simp) _).trans h2⟩

set_option maxRecDepth 100000 in
set_option maxHeartbeats 2000000 in
theorem append_some (neg : Bool) (d : ByteArray) (x : Int) (v : Value) (l : List UInt8) (w : World) (hf : Full w v l.length (bs l)) (hd : ¬ d.size = 0) (hd2 : d.size ≤ 1048576) (hn : l.length ≤ 1048576) (hx1 : -1048576 ≤ x) (hx2 : x ≤ 1048576) :
    Calls Trym.prog 12 #[.agg #[.bool neg, .string d, .int .i64 x], v] w fun e w' => ∃ v', e = .returned v' ∧ Own w.heap.size w' v' (l ++ (Num.sgn neg ++ Num.body d.data.toList x)) ∧ Below w.heap.size w w' := by
  have hE := empty_no d hd
  have hsl : (Num.sgn neg).length ≤ 1 := by cases neg <;> simp [Num.sgn]
  have hd0 : 0 < d.size := by omega
  go_enter Trym.func12, Trym.ntmps12
  go_upto_if 15 with fail
  go_cut [1] (fun v1 wx => Below (w.heap.size + 1) (w.alloc (.cells #[.bool neg, .string d, .int .i64 x] 24)) wx ∧ OntoL (w.heap.size + 1) wx v1 (l ++ Num.sgn neg))
  case first =>
    cases neg
    · go_wp2
      go_meet
      case rel => exact ⟨Below.refl _ _, .inr (by simpa [Num.sgn] using hf.alloc _)⟩
    · go_wp2_with (at_builtin; refine wpList_bytes _ rfl (.tmp 16) (.tmp 17) rfl (w.heap.size + 1) (by simp) v l rfl (.inr ((hf.alloc _).alloc _)) ⟨w.heap.size + 1, 0, none⟩ 1 1 [45] rfl rfl (one_news _ _ _ (by simp)) (by decide) (by omega) ?_; intro v' w' h1 h2)
      go_meet
      case rel => exact ⟨((Below.refl _ _).alloc (by simp) _).trans h2, h1.onto⟩
  case rest =>
    obtain ⟨hb, hon⟩ := hcut
    generalize hL : l ++ Num.sgn neg = L at hon
    have hLl : L.length ≤ 1048577 := by rw [← hL, List.length_append]; omega
    have HL : Hid (l ++ Num.sgn neg = L) := hL
    clear hL hsl hf
    obtain ⟨c0, c1, c2⟩ := box_cells hb
    have hsz : w.heap.size + 1 ≤ wc.heap.size := by have := hb.size; simpa using this
    have BW : Hid (Below w.heap.size w (w.alloc (.cells #[.bool neg, .string d, .int .i64 x] 24))) := (Below.refl _ w).alloc (Nat.le_refl _) _
    by_cases hx : x < 0
    · have HB : Hid (l ++ (Num.sgn neg ++ Num.body d.data.toList x) = L ++ ([48, 46] ++ (List.replicate (-x - 1).toNat 48 ++ d.data.toList))) := by
        show _ = _; unfold Num.body; rw [if_pos hx, ← HL.out]; simp
      go_wp2_with (at_builtin; refine wpList_str _ rfl (.tmp 22) (.const (.string ⟨#[48, 46]⟩)) rfl (w.heap.size + 1) hsz _ L rfl hon ⟨#[48, 46]⟩ rfl (by decide) (by have : (⟨#[48, 46]⟩ : ByteArray).size = 2 := rfl; omega) ?_; intro v2 w2 h1 h2; obtain ⟨d0, d1, d2⟩ := box_cells (hb.trans h2))
      have hK : ((-x - 1).toNat : Int) = -x - 1 := by omega
      have HK : Hid (((-x - 1).toNat : Int) = -x - 1) := hK
      have hKb : (-x - 1).toNat ≤ 1048576 := by omega
      generalize (-x - 1).toNat = K at HK hKb HB
      have hb2 := hb.trans h2
      have h1' : Own (w.heap.size + 1) w2 v2 (L ++ [48, 46]) := h1
      clear hK h1 h2 hb c0 c1 c2 d0 d1 d2 hon hsz
      go_loopw [1, 5] (fun b i wr => ∃ k : Nat, k ≤ K ∧ i = .int .i64 k ∧ Own (w.heap.size + 1) wr b (L ++ [48, 46] ++ List.replicate (K - k) 48) ∧ Below (w.heap.size + 1) (w.alloc (.cells #[.bool neg, .string d, .int .i64 x] 24)) wr) (fun _ i _ => (intOf i).toNat)
      case atStart => exact ⟨K, Nat.le_refl _, by rw [HK.out], by simpa using h1', hb2⟩
      case round =>
        obtain ⟨k, hk, rfl, ho, hbr⟩ := hrel
        have hsr : w.heap.size + 1 ≤ wr.heap.size := by have := hbr.size; simpa using this
        by_cases hk0 : 0 < k
        · go_wp2_with (at_builtin; refine wpList_bytes _ rfl (.tmp 32) (.tmp 33) rfl (w.heap.size + 1) (by simp; omega) _ (L ++ [48, 46] ++ List.replicate (K - k) 48) rfl ((ho.alloc _).onto) ⟨wr.heap.size, 0, none⟩ 1 1 [48] rfl rfl (one_news _ _ _ (by simp)) (by decide) (by simp; omega) ?_; intro v3 w3 h3 h4)
          go_roundw
          case rel => exact ⟨k - 1, by omega, by go_num, h3.of (more_zero _ K k hk0 hk), (hbr.alloc hsr _).trans h4⟩
          case measure => simp [intOf]; omega
        · obtain ⟨e0, e1, e2⟩ := box_cells hbr
          go_wp2_with (at_builtin; refine wpList_str _ rfl (.tmp 35) (.tmp 37) rfl (w.heap.size + 1) hsr _ (L ++ [48, 46] ++ List.replicate (K - k) 48) rfl ho.onto d rfl hd0 (by simp; omega) ?_; intro v3 w3 h3 h4)
          go_ret
          obtain rfl : k = 0 := by omega
          exact ⟨_, rfl, (h3.of (by rw [HB.out]; simp)).mono (by omega), BW.out.trans ((hbr.trans h4).mono (by omega))⟩
    obtain ⟨y, rfl⟩ := Int.eq_ofNat_of_zero_le (show 0 ≤ x by omega)
    by_cases hw : y + 1 < d.size
    · have HB : Hid (l ++ (Num.sgn neg ++ Num.body d.data.toList (y : Int)) = L ++ (d.data.toList.take (y + 1) ++ ([46] ++ d.data.toList.drop (y + 1)))) := by
        show _ = _; unfold Num.body; rw [if_neg hx, if_pos (by rw [len_s]; omega), ← HL.out, show ((y : Int) + 1).toNat = y + 1 from by omega]; simp
      have hwi : (y : Int) + 1 < (d.size : Int) := by omega
      clear hx
      have HS1 : Hid ((d.extract 0 (y + 1)).size = y + 1) := by show _ = _; rw [ByteArray.size_extract]; omega
      have HS2 : Hid ((d.extract (y + 1) d.size).size = d.size - (y + 1)) := by show _ = _; rw [ByteArray.size_extract]; omega
      go_wp2_with (first
        | (at_builtin; refine wpList_str _ rfl (.tmp 47) (.tmp 51) rfl (w.heap.size + 1) hsz _ L rfl hon (d.extract 0 (y + 1)) rfl (by rw [HS1.out]; omega) (by rw [HS1.out]; omega) ?_; intro v2 w2 h1 h2; obtain ⟨d0, d1, d2⟩ := box_cells (hb.trans h2); have hs2 := Nat.le_trans hsz h2.size)
        | (at_builtin; refine wpList_bytes _ rfl (.tmp 53) (.tmp 54) rfl (w.heap.size + 1) (by simp; omega) _ (L ++ (d.extract 0 (y + 1)).data.toList) rfl ((h1.alloc _).onto) ⟨w2.heap.size, 0, none⟩ 1 1 [46] rfl rfl (one_news _ _ _ (by simp)) (by decide) (by rw [List.length_append, len_s, HS1.out]; omega) ?_; intro v3 w3 h3 h4; obtain ⟨e0, e1, e2⟩ := box_cells (((hb.trans h2).alloc hs2 _).trans h4); have hs3 : w.heap.size + 1 ≤ w3.heap.size := (by have := h4.size; simp at this; omega))
        | (at_builtin; refine wpList_str _ rfl (.tmp 56) (.tmp 60) rfl (w.heap.size + 1) hs3 _ (L ++ (d.extract 0 (y + 1)).data.toList ++ [46]) rfl h3.onto (d.extract (y + 1) d.size) rfl (by rw [HS2.out]; omega) (by rw [List.length_append, List.length_append, len_s, HS1.out, HS2.out]; simp; omega) ?_; intro v4 w4 h5 h6))
      go_ret
      exact ⟨_, rfl, (h5.of (by rw [HB.out, ext_l, ext_l, take_rest d.data.toList (y + 1) d.size (len_s d)]; simp)).mono (by omega), BW.out.trans (((((hb.trans h2).alloc hs2 _).trans h4).trans h6).mono (by omega))⟩
    · have HB : Hid (l ++ (Num.sgn neg ++ Num.body d.data.toList (y : Int)) = L ++ (d.data.toList ++ List.replicate (y + 1 - d.size) 48)) := by
        show _ = _; unfold Num.body; rw [if_neg hx, if_neg (by rw [len_s]; omega), ← HL.out, len_s, show ((y : Int) + 1 - (d.size : Int)).toNat = y + 1 - d.size from by omega]; simp
      have hwi : ¬ (y : Int) + 1 < (d.size : Int) := by omega
      clear hx
      go_wp2_with (at_builtin; refine wpList_str _ rfl (.tmp 62) (.tmp 64) rfl (w.heap.size + 1) hsz _ L rfl hon d rfl hd0 (by omega) ?_; intro v2 w2 h1 h2; obtain ⟨d0, d1, d2⟩ := box_cells (hb.trans h2))
      have hK : ((y + 1 - d.size : Nat) : Int) = (y : Int) + 1 - (d.size : Int) := by omega
      have HK : Hid (((y + 1 - d.size : Nat) : Int) = (y : Int) + 1 - (d.size : Int)) := hK
      have hKb : y + 1 - d.size ≤ 1048577 := by omega
      generalize y + 1 - d.size = K at HK hKb HB
      have hb2 := hb.trans h2
      clear hK h2 hb c0 c1 c2 d0 d1 d2 hon hsz
      go_loopw [1, 7] (fun b i wr => ∃ k : Nat, k ≤ K ∧ i = .int .i64 k ∧ Own (w.heap.size + 1) wr b (L ++ d.data.toList ++ List.replicate (K - k) 48) ∧ Below (w.heap.size + 1) (w.alloc (.cells #[.bool neg, .string d, .int .i64 y] 24)) wr) (fun _ i _ => (intOf i).toNat)
      case atStart => exact ⟨K, Nat.le_refl _, by rw [HK.out], by simpa using h1, hb2⟩
      case round =>
        obtain ⟨k, hk, rfl, ho, hbr⟩ := hrel
        have hsr : w.heap.size + 1 ≤ wr.heap.size := by have := hbr.size; simpa using this
        by_cases hk0 : 0 < k
        · go_wp2_with (at_builtin; refine wpList_bytes _ rfl (.tmp 77) (.tmp 78) rfl (w.heap.size + 1) (by simp; omega) _ (L ++ d.data.toList ++ List.replicate (K - k) 48) rfl ((ho.alloc _).onto) ⟨wr.heap.size, 0, none⟩ 1 1 [48] rfl rfl (one_news _ _ _ (by simp)) (by decide) (by simp; omega) ?_; intro v3 w3 h3 h4)
          go_roundw
          case rel => exact ⟨k - 1, by omega, by go_num, h3.of (more_zero _ K k hk0 hk), (hbr.alloc hsr _).trans h4⟩
          case measure => simp [intOf]; omega
        · go_wp2
          go_ret
          obtain rfl : k = 0 := by omega
          exact ⟨_, rfl, (ho.of (by rw [HB.out]; simp)).mono (by omega), BW.out.trans (hbr.mono (by omega))⟩

theorem append_any (neg : Bool) (d : ByteArray) (x : Int) (v : Value) (l : List UInt8) (w : World) (hf : Full w v l.length (bs l)) (hd : d.size ≤ 1048576) (hn : l.length ≤ 1048576) (hx1 : -1048576 ≤ x) (hx2 : x ≤ 1048576) :
    Calls Trym.prog 12 #[.agg #[.bool neg, .string d, .int .i64 x], v] w fun e w' => ∃ v', e = .returned v' ∧ Own w.heap.size w' v' (l ++ Num.txt neg d.data.toList x) ∧ Below w.heap.size w w' := by
  by_cases h0 : d.size = 0
  · have e : Num.txt neg d.data.toList x = [48] := by unfold Num.txt; rw [if_pos (by rw [← Lib.toList_data]; exact (empty_iff d).2 h0)]
    rw [e]; exact append_zero neg d x v l w hf h0 hn
  · have e : Num.txt neg d.data.toList x = Num.sgn neg ++ Num.body d.data.toList x := by unfold Num.txt; rw [if_neg (by rw [← Lib.toList_data, empty_no d h0]; simp)]
    rw [e]; exact append_some neg d x v l w hf h0 hd hn hx1 hx2

end Go.Proofs.Qxb6003610aMods
