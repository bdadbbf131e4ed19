/-
  THE WALK of Number.Key.
-/
import Derived.Test.Qxb6003610aModsClones
import Derived.Test.Qxb6003610aModsPlainD
namespace Go.Proofs.Qxb6003610aMods
open Go.RowKit

/-- A row of bytes, the whole of it, as a string. -/
theorem conv_all (w : World) (g N cap : Nat) (l : List UInt8) (hN : l.length = N) (hc : ∀ i, i < N → w.cell? ⟨g, i, none⟩ = some (.int .u8 (Num.cd l i))) :
    ∃ T : ByteArray, T.data.toList = l ∧ (convert 29 9 (.slice (some ⟨g, 0, none⟩) N cap)).run Trym.prog w = .ok (.string T) w := by
  refine ⟨strOfNums (l.map fun c => (c.toNat : Int)), ?_, ?_⟩
  · rw [strOfNums_data, List.map_map]
    conv => rhs; rw [← List.map_id l]
    apply List.map_congr_left
    intro c _
    simp
  · refine run_convert_bytes_arg (P := Trym.prog) w 29 5 Trym.underlying29 Trym.underlying5 g 0 N cap (l.map fun c => (c.toNat : Int)) (by simp [hN]) (fun i hi => ?_) 9 Trym.underlying9
    rw [Nat.zero_add, hc i hi]
    unfold Num.cd
    simp [List.getD_eq_getElem?_getD, show i < l.length from by omega]

/-- append of a string, the result written out, with the string that it converts to. -/
theorem wpList_str_out {ops : Array Oper} {rest : List Oper} {o : Oper} {a : Act} {Q : Exit → Act → World → Prop} (w : World) (hgd : o.guard = none) (sl x : Operand)
    (ho : o.op = .call { callee := .builtin .append, args := #[sl, x], argTypes := #[29, 9] })
    (B : Nat) (hB : B ≤ w.heap.size) (v : Value) (k : List UInt8) (hs : a.eval sl = v) (hon : OntoL B w v k)
    (s : ByteArray) (hx : a.eval x = .string s) (hm : 0 < s.size) (hb : k.length + s.size ≤ 1073741824)
    (h : ∀ g cap N w' T, Hid (T.data.toList = k ++ s.data.toList) → (convert 29 9 (.slice (some ⟨g, 0, none⟩) N cap)).run Trym.prog w' = .ok (.string T) w' → Below B w w' → wpList Trym.prog ops Q rest (a.put o.dst (.slice (some ⟨g, 0, none⟩) N cap)) w') :
    wpList Trym.prog ops Q (o :: rest) a w := by
  refine wpList_str w hgd sl x ho B hB v k hs hon s hx hm hb fun v' w' h1 h2 => ?_
  obtain ⟨g, cap, hv, h3, h4, h5⟩ := own_shape h1 (by rw [List.length_append, len_s]; omega)
  obtain ⟨T, hT, hr⟩ := conv_all w' g _ cap _ rfl h5
  rw [hv]
  exact h g cap _ w' T hT hr h2
theorem wpList_bytes_out {ops : Array Oper} {rest : List Oper} {o : Oper} {a : Act} {Q : Exit → Act → World → Prop} (w : World) (hgd : o.guard = none) (s x : Operand)
    (ho : o.op = .call { callee := .builtin .append, args := #[s, x], argTypes := #[29, 29] })
    (B : Nat) (hB : B ≤ w.heap.size) (v : Value) (k : List UInt8) (hs : a.eval s = v) (hon : OntoL B w v k)
    (ad : Addr) (m c : Nat) (l : List UInt8) (hx : a.eval x = .slice (some ad) m c) (hl : l.length = m) (hnews : ∀ j u, (bs l)[j]? = some u → w.cell? (ad.add j) = some u) (hm : 0 < m) (hb : k.length + m ≤ 1073741824)
    (h : ∀ g cap N w' T, Hid (T.data.toList = k ++ l) → (convert 29 9 (.slice (some ⟨g, 0, none⟩) N cap)).run Trym.prog w' = .ok (.string T) w' → Below B w w' → wpList Trym.prog ops Q rest (a.put o.dst (.slice (some ⟨g, 0, none⟩) N cap)) w') :
    wpList Trym.prog ops Q (o :: rest) a w := by
  refine wpList_bytes w hgd s x ho B hB v k hs hon ad m c l hx hl hnews hm hb fun v' w' h1 h2 => ?_
  obtain ⟨g, cap, hv, h3, h4, h5⟩ := own_shape h1 (by rw [List.length_append]; omega)
  obtain ⟨T, hT, hr⟩ := conv_all w' g _ cap _ rfl h5
  rw [hv]
  exact h g cap _ w' T hT hr h2

theorem two_news (w : World) (g : Nat) (c c' : UInt8) (h : w.cell? ⟨g, 0, none⟩ = some (.int .u8 c.toNat)) (h' : w.cell? ⟨g, 1, none⟩ = some (.int .u8 c'.toNat)) : ∀ j u, (bs [c, c'])[j]? = some u → w.cell? ((⟨g, 0, none⟩ : Addr).add j) = some u := by
  intro j u hj
  rw [add_plain, Nat.zero_add]
  match j, hj with
  | 0, hj => simp [bs] at hj; subst hj; exact h
  | 1, hj => simp [bs] at hj; subst hj; exact h'
theorem two_full (w : World) (g : Nat) (c c' : UInt8) (h : w.cell? ⟨g, 0, none⟩ = some (.int .u8 c.toNat)) (h' : w.cell? ⟨g, 1, none⟩ = some (.int .u8 c'.toNat)) : Full w (.slice (some ⟨g, 0, none⟩) 2 2) [c, c'].length (bs [c, c']) :=
  ⟨_, rfl, fun e => (by cases e), rfl, fun b hb j u hj => by cases hb; exact two_news w g c c' h h' j u hj⟩

set_option maxRecDepth 100000 in
set_option maxHeartbeats 1000000 in
theorem key_zero (neg : Bool) (d : ByteArray) (x : Int) (w : World) (hd : d.size = 0) :
    Calls Trym.prog 14 #[.agg #[.bool neg, .string d, .int .i64 x]] w fun e w' => e = .returned (.string ⟨#[1]⟩) ∧ Below w.heap.size w w' := by
  have hE := (empty_iff d).2 hd
  go_enter Trym.func14, Trym.ntmps14
  go_wp2
  go_ret
  exact ⟨rfl, (Below.refl _ w).alloc (Nat.le_refl _) _⟩

set_option maxRecDepth 100000 in
set_option maxHeartbeats 1000000 in
theorem key_pos (d : ByteArray) (x : Int) (w : World) (hd : ¬ d.size = 0) (hd2 : d.size ≤ 1048576) (hx1 : -130 ≤ x) (hx2 : x ≤ 125) :
    Calls Trym.prog 14 #[.agg #[.bool false, .string d, .int .i64 x]] w fun e w' => ∃ T, e = .returned (.string T) ∧ Hid (T.data.toList = [2, Num.eb x] ++ d.data.toList) ∧ Below w.heap.size w w' := by
  have hE := empty_no d hd
  have HE : Hid (((Num.eb x).toNat : Int) = x + 130) := Num.eb_nat x hx1 hx2
  go_enter Trym.func14, Trym.ntmps14
  go_wp2_with (at_builtin; refine wpList_str_out _ rfl (.tmp 17) (.tmp 19) rfl (w.heap.size + 1) (by simp) _ [2, Num.eb x] rfl (.inr (two_full _ _ 2 (Num.eb x) (by simp) (by simp [HE.out]))) d rfl (by omega) (by simp; omega) ?_; intro g cap N w1 T hT hr hb)
  go_ret
  exact ⟨T, rfl, hT, (((Below.refl _ w).alloc (Nat.le_refl _) _).alloc (by simp) _).trans (hb.mono (by omega))⟩

set_option maxRecDepth 100000 in
set_option maxHeartbeats 1000000 in
theorem key_neg (d : ByteArray) (x : Int) (w : World) (hd : ¬ d.size = 0) (hd2 : d.size ≤ 1048576) (hx1 : -130 ≤ x) (hx2 : x ≤ 125) (hdig : ∀ c ∈ d.data.toList, Num.isD c = true) :
    Calls Trym.prog 14 #[.agg #[.bool true, .string d, .int .i64 x]] w fun e w' => ∃ T, e = .returned (.string T) ∧ Hid (T.data.toList = [0, Num.fb x] ++ d.data.toList.map Num.comp ++ [58]) ∧ Below w.heap.size w w' := by
  have hE := empty_no d hd
  have HE : Hid (((Num.fb x).toNat : Int) = 255 - (x + 130)) := Num.fb_nat x hx1 hx2
  have HD : Hid (∀ c ∈ d.data.toList, Num.isD c = true) := hdig
  obtain ⟨i0, hi, hz0, hz1, hz2⟩ := info_parts Trym.info5
  clear hdig
  go_enter Trym.func14, Trym.ntmps14
  go_wp2_with (first
    | (at_make; refine wpList_make_own _ rfl _ _ 29 rfl (w.heap.size + 1) 5 i0 (.int .u8 0) 1 Trym.underlying29 hi hz0 hz1 _ _ _ (d.size + 3) rfl rfl (by omega) (by rw [hz2]; omega) (by unfold maxLen; omega) (by simp) ?_; intro w1 h1 h2; have h1' : Own (w.heap.size + 1) w1 (.slice (some ⟨w.heap.size + 1, 0, none⟩) 0 (d.size + 3)) [] := (by simpa [Own, bs] using h1); have hb1 : Below (w.heap.size + 1) (w.alloc (.cells #[.bool true, .string d, .int .i64 x] 24)) w1 := (Below.refl _ _).grown h2 (by simp) (fun k hk => by cases hk); have hs1 : w.heap.size + 1 ≤ w1.heap.size := (by have := hb1.size; simpa using this); clear h1 h2)
    | (at_builtin; refine wpList_bytes _ rfl (.tmp 26) (.tmp 29) rfl (w.heap.size + 1) (by simp; omega) _ [] rfl ((h1'.alloc _).onto) ⟨w1.heap.size, 0, none⟩ 2 2 [0, Num.fb x] rfl rfl (two_news _ _ 0 (Num.fb x) (by simp) (by simp [HE.out])) (by decide) (by simp) ?_; intro v2 w2 h3 h4))
  have hb2 : Below (w.heap.size + 1) (w.alloc (.cells #[.bool true, .string d, .int .i64 x] 24)) w2 := (hb1.alloc hs1 _).trans h4
  have h3' : Own (w.heap.size + 1) w2 v2 ([0, Num.fb x] ++ (d.data.toList.take 0).map Num.comp) := h3.of (by simp)
  have BW : Hid (Below w.heap.size w (w.alloc (.cells #[.bool true, .string d, .int .i64 x] 24))) := (Below.refl _ w).alloc (Nat.le_refl _) _
  clear h1' hb1 hs1 h3 h4 hi hz0 hz1 hz2
  go_loopw [4, 5] (fun b i wr => ∃ k : Nat, k ≤ d.size ∧ i = .int .i64 k ∧ Own (w.heap.size + 1) wr b ([0, Num.fb x] ++ (d.data.toList.take k).map Num.comp) ∧ Below (w.heap.size + 1) (w.alloc (.cells #[.bool true, .string d, .int .i64 x] 24)) wr) (fun _ i _ => d.size - (intOf i).toNat)
  case atStart => exact ⟨0, Nat.zero_le _, rfl, h3', hb2⟩
  case round =>
    obtain ⟨k, hk, rfl, ho, hbr⟩ := hrel
    obtain ⟨e0, e1, e2⟩ := box_cells hbr
    have hsr : w.heap.size + 1 ≤ wr.heap.size := by have := hbr.size; simpa using this
    by_cases hlt : k < d.size
    · have hdk : Num.isD d[k] = true := HD.out d[k] (by rw [← at_s d k hlt, List.getD_eq_getElem?_getD, List.getElem?_eq_getElem (by rw [len_s]; exact hlt)]; simp)
      rw [Num.isD_iff] at hdk
      have hc1 : (48 : Int) ≤ (d[k].toNat : Int) := by omega
      have hc2 : (d[k].toNat : Int) ≤ 57 := by omega
      have HC : Hid (((Num.comp d[k]).toNat : Int) = 105 - (d[k].toNat : Int)) := by show _ = _; rw [Num.comp_nat]; omega
      have HT : Hid (([0, Num.fb x] ++ (d.data.toList.take k).map Num.comp) ++ [Num.comp d[k]] = [0, Num.fb x] ++ (d.data.toList.take (k + 1)).map Num.comp) := by
        show _ = _
        rw [List.take_succ_eq_append_getElem (by rw [len_s]; exact hlt), List.map_append, List.append_assoc]
        rfl
      clear hdk
      go_wp2_with (at_builtin; refine wpList_bytes _ rfl (.tmp 38) (.tmp 44) rfl (w.heap.size + 1) (by simp; omega) _ ([0, Num.fb x] ++ (d.data.toList.take k).map Num.comp) rfl ((ho.alloc _).onto) ⟨wr.heap.size, 0, none⟩ 1 1 [Num.comp d[k]] rfl rfl (one_news _ _ _ (by simp [HC.out])) (by decide) (by simp; omega) ?_; intro v3 w3 h5 h6)
      go_roundw
      case rel => exact ⟨k + 1, by omega, by go_num, h5.of HT.out, (hbr.alloc hsr _).trans h6⟩
      case measure => simp [intOf]; omega
    · have HT : Hid (d.data.toList.take k = d.data.toList) := List.take_of_length_le (by rw [len_s]; omega)
      go_wp2_with (at_builtin; refine wpList_bytes_out _ rfl (.tmp 46) (.tmp 47) rfl (w.heap.size + 1) (by simp; omega) _ ([0, Num.fb x] ++ (d.data.toList.take k).map Num.comp) rfl ((ho.alloc _).onto) ⟨wr.heap.size, 0, none⟩ 1 1 [58] rfl rfl (one_news _ _ _ (by simp)) (by decide) (by simp; omega) ?_; intro g cap N w3 T hT hr hb3)
      go_ret
      refine ⟨T, rfl, ?_, BW.out.trans (((hbr.alloc hsr _).trans hb3).mono (by omega))⟩
      show _ = _
      rw [hT.out, HT.out]
      rfl

/-- Key. -/
theorem key_any (neg : Bool) (d : ByteArray) (x : Int) (w : World) (hd2 : d.size ≤ 1048576) (hx1 : -130 ≤ x) (hx2 : x ≤ 125) (hdig : ∀ c ∈ d.data.toList, Num.isD c = true) :
    Calls Trym.prog 14 #[.agg #[.bool neg, .string d, .int .i64 x]] w fun e w' => ∃ T, e = .returned (.string T) ∧ Hid (T.data.toList = Num.key neg d.data.toList x) ∧ Below w.heap.size w w' := by
  by_cases h0 : d.size = 0
  · have e : Num.key neg d.data.toList x = [1] := by unfold Num.key; rw [if_pos (by rw [← Lib.toList_data]; exact (empty_iff d).2 h0)]
    rw [e]
    exact (key_zero neg d x w h0).mono fun _ _ ⟨h1, h2⟩ => ⟨_, h1, rfl, h2⟩
  · have hE : d.data.toList.isEmpty = false := by rw [← Lib.toList_data]; exact empty_no d h0
    cases neg
    · have e : Num.key false d.data.toList x = [2, Num.eb x] ++ d.data.toList := by unfold Num.key; rw [hE]; rfl
      rw [e]; exact key_pos d x w h0 hd2 hx1 hx2
    · have e : Num.key true d.data.toList x = [0, Num.fb x] ++ d.data.toList.map Num.comp ++ [58] := by unfold Num.key; rw [hE]; rfl
      rw [e]; exact key_neg d x w h0 hd2 hx1 hx2 hdig
end Go.Proofs.Qxb6003610aMods
