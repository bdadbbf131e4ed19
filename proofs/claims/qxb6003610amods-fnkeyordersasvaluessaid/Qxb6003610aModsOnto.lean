/-
  'append' onto a slice of bytes that is the call's own, or that came in full (its length is its capacity): the first append then makes a new row.
-/
import Derived.Test.Qxb6003610aModsRows
import Derived.WalkKit
import Derived.WalkSpells
import Derived.WalkLawsBesides
import Derived.Deep.AppendSrc
import Derived.Lib.AppendStr
namespace Go.Proofs.Qxb6003610aMods
open Go.RowKit

theorem Trym.info5 : (Trym.prog.info? 5).map (fun i => (i.zero, i.size, i.bytes)) = some (some (.int .u8 0), 1, 1) := by kernel_rfl

/-- Bytes as cells. -/
def bs (l : List UInt8) : List Value := l.map fun b => Value.int .u8 b.toNat
theorem bs_len (l : List UInt8) : (bs l).length = l.length := by simp [bs]
theorem bs_app (l m : List UInt8) : bs (l ++ m) = bs l ++ bs m := by simp [bs]
theorem bs_one (l : List UInt8) : ∀ u ∈ bs l, u.oneCell' = true := by
  intro u hu
  obtain ⟨_, _, rfl⟩ := List.mem_map.1 hu
  rfl

/-- A slice that came in full. -/
def Full (w : World) (v : Value) (n : Nat) (xs : List Value) : Prop :=
  ∃ ao, v = .slice ao n n ∧ (ao = none → n = 0) ∧ xs.length = n ∧ ∀ b, ao = some b → ∀ j u, xs[j]? = some u → w.cell? (b.add j) = some u
def Onto (B : Nat) (w : World) (v : Value) (n : Nat) (xs : List Value) : Prop := w.ownsRow B 5 1 v n xs ∨ Full w v n xs

theorem cell_alloc_old {w : World} {a : Addr} {u : Value} (h : w.cell? a = some u) (o : Obj) : (w.alloc o).cell? a = some u := by
  have hlt := World.block_lt_of_cell? w a h
  rw [← h]
  exact World.cell?_of_block (w := w) (Below.heap_alloc w o a.block hlt)
theorem Full.alloc {w : World} {v : Value} {n : Nat} {xs : List Value} (h : Full w v n xs) (o : Obj) : Full (w.alloc o) v n xs := by
  obtain ⟨ao, h1, h2, h3, h4⟩ := h
  exact ⟨ao, h1, h2, h3, fun b hb j u hj => cell_alloc_old (h4 b hb j u hj) o⟩
theorem Onto.alloc {B : Nat} {w : World} {v : Value} {n : Nat} {xs : List Value} (h : Onto B w v n xs) (o : Obj) : Onto B (w.alloc o) v n xs := by
  rcases h with h | h
  · exact .inl (h.alloc o)
  · exact .inr (h.alloc o)
theorem owns_mono {B B' : Nat} {w : World} {v : Value} {n : Nat} {xs : List Value} (h : w.ownsRow B 5 1 v n xs) (hB : B' ≤ B) : w.ownsRow B' 5 1 v n xs := by
  obtain ⟨h1, h2⟩ := h
  refine ⟨h1, ?_⟩
  rcases h2 with h2 | ⟨g, cap, cur, a, b, c⟩
  · exact .inl h2
  · exact .inr ⟨g, cap, cur, a, by omega, c⟩

/-- The arm that grows, whatever is appended. -/
theorem run_full {w : World} (B : Nat) (hB : B ≤ w.heap.size) (tx ty : TypeId) (v : Value) (n : Nat) (xs : List Value) (hf : Full w v n xs)
    (x : Value) (m : Nat) (news : List Value) (hs : Src Trym.prog 1 tx x m news w) (hm : 0 < m) (hb : n + m ≤ 1073741824) :
    ∃ v' w', (Builtin.append_ #[29, tx] ty #[v, x]).run Trym.prog w = .ok v' w' ∧ w'.ownsRow B 5 1 v' (n + m) (xs ++ news) ∧ Below B w w' := by
  obtain ⟨i0, hi, hz0, hz1, hz2⟩ := info_parts Trym.info5
  obtain ⟨ao, rfl, hn0, hlen, hcell⟩ := hf
  have hold : (Builtin.firstCells i0.size n (.slice ao n n)).run Trym.prog w.drew = .ok xs.toArray w.drew := by
    cases ao with
    | none =>
      have h0 := hn0 rfl
      have hx : xs = [] := List.eq_nil_of_length_eq_zero (by omega)
      rw [hx]
      exact run_firstCells_none w.drew i0.size n n n
    | some b => exact run_firstCells_some (P := Trym.prog) w.drew i0.size n b n n xs (by rw [hz1]; omega) (by simpa using hcell b rfl)
  have hnl := hs.newsLen
  have hr := run_append_grow_src (P := Trym.prog) w 29 tx ty 5 i0 (.int .u8 0) Trym.underlying29 hi hz0 ao n n xs hold x m news (by rw [hz1]; exact hs) (by omega) (by omega)
    (by rw [hz2]; exact growslice_fits (by omega) (by omega))
  have hge := grownCap_ge w (n + m) n 5
  have hcm : grownCap w (n + m) n 5 ≤ maxLen := grownCap_le_maxLen w (n + m) n 5 (by unfold maxLen; omega)
  have hl : (xs ++ news).length = (n + m) * 1 := by rw [List.length_append, hlen, hnl]; omega
  refine ⟨_, _, hr, ⟨hl, .inr ⟨w.heap.size, _, _, rfl, hB, heap_alloc_new w.drew _, hge, hcm, ?_, ?_⟩⟩, (Below.refl B w).drew.alloc hB _⟩
  · have hz : (Value.int IntKind.u8 0).cells.size = 1 := rfl
    simp only [Array.size_append, List.size_toArray, size_zeroCells, hz, hl]
    omega
  · simp only [Array.toList_append]
    rw [← hl]
    exact List.take_left

theorem run_onto_slice {w : World} (B : Nat) (hB : B ≤ w.heap.size) (ty : TypeId) (v : Value) (n : Nat) (xs : List Value) (hon : Onto B w v n xs)
    (ad : Addr) (m c : Nat) (l : List UInt8) (hl : l.length = m) (hnews : ∀ j u, (bs l)[j]? = some u → w.cell? (ad.add j) = some u) (hm : 0 < m) (hb : n + m ≤ 1073741824) :
    ∃ v' w', (Builtin.append_ #[29, 29] ty #[v, .slice (some ad) m c]).run Trym.prog w = .ok v' w' ∧ w'.ownsRow B 5 1 v' (n + m) (xs ++ bs l) ∧ Below B w w' := by
  rcases hon with hown | hf
  · obtain ⟨i0, hi, hz0, hz1, hz2⟩ := info_parts Trym.info5
    obtain ⟨v', w', hr, h2, h3, _⟩ := run_append_own (P := Trym.prog) w B 29 ty 5 i0 (.int .u8 0) 1 1 Trym.underlying29 hi hz0 hz1 hz2 rfl (by decide) v n xs hown ad m c (bs l) (by rw [bs_len]; omega) hnews (bs_one l)
      (by unfold maxLen; omega) (by omega) hB
    exact ⟨v', w', hr, h2, (Below.refl B w).grown h3 hB (fun k hk => (hown.lt k hk).1)⟩
  · exact run_full B hB 29 ty v n xs hf _ m (bs l) (Src.ofSlice (P := Trym.prog) w Trym.underlying29 ad m c (bs l) (by rw [bs_len]; omega) hnews (bs_one l)) hm hb

theorem run_onto_string {w : World} (B : Nat) (hB : B ≤ w.heap.size) (ty : TypeId) (v : Value) (n : Nat) (xs : List Value) (hon : Onto B w v n xs)
    (s : ByteArray) (hm : 0 < s.size) (hb : n + s.size ≤ 1073741824) :
    ∃ v' w', (Builtin.append_ #[29, 9] ty #[v, .string s]).run Trym.prog w = .ok v' w' ∧ w'.ownsRow B 5 1 v' (n + s.size) (xs ++ bs s.data.toList) ∧ Below B w w' := by
  rcases hon with hown | hf
  · obtain ⟨i0, hi, hz0, hz1, hz2⟩ := info_parts Trym.info5
    obtain ⟨v', w', hr, h2, h3, _⟩ := Lib.run_append_own_string (P := Trym.prog) w B 29 9 ty 5 i0 Trym.underlying29 Trym.underlying9 hi hz0 hz1 hz2 v n xs hown s (by unfold maxLen; omega) (by omega) hB
    exact ⟨v', w', hr, h2, (Below.refl B w).grown h3 hB (fun k hk => (hown.lt k hk).1)⟩
  · exact run_full B hB 9 ty v n xs hf _ s.size (bs s.data.toList) (Src.ofString (P := Trym.prog) w Trym.underlying9 s) hm hb

theorem wpList_onto_slice {ops : Array Oper} {rest : List Oper} {o : Oper} {a : Act} {Q : Exit → Act → World → Prop} (w : World) (hgd : o.guard = none) (s x : Operand)
    (ho : o.op = .call { callee := .builtin .append, args := #[s, x], argTypes := #[29, 29] })
    (B : Nat) (hB : B ≤ w.heap.size) (v : Value) (n : Nat) (xs : List Value) (hs : a.eval s = v) (hon : Onto B w v n xs)
    (ad : Addr) (m c : Nat) (l : List UInt8) (hx : a.eval x = .slice (some ad) m c) (hl : l.length = m) (hnews : ∀ j u, (bs l)[j]? = some u → w.cell? (ad.add j) = some u) (hm : 0 < m) (hb : n + m ≤ 1073741824)
    (h : ∀ v' w', w'.ownsRow B 5 1 v' (n + m) (xs ++ bs l) → Below B w w' → wpList Trym.prog ops Q rest (a.put o.dst v') w') : wpList Trym.prog ops Q (o :: rest) a w := by
  refine wpList_plain hgd fun K hK => ?_
  obtain ⟨v', w', hr, h2, h3⟩ := run_onto_slice B hB o.type v n xs hon ad m c l hl hnews hm hb
  unfold Oper.wp execOp
  simp only [ho, resolve, invoke, builtin, Sem.run_bind, Sem.run_pure, Result.andThen_ok, List.map_toArray, List.map_cons, List.map_nil, hs, hx, hr]
  exact hK _ _ (h v' w' h2 h3)

theorem wpList_onto_string {ops : Array Oper} {rest : List Oper} {o : Oper} {a : Act} {Q : Exit → Act → World → Prop} (w : World) (hgd : o.guard = none) (sl x : Operand)
    (ho : o.op = .call { callee := .builtin .append, args := #[sl, x], argTypes := #[29, 9] })
    (B : Nat) (hB : B ≤ w.heap.size) (v : Value) (n : Nat) (xs : List Value) (hs : a.eval sl = v) (hon : Onto B w v n xs)
    (s : ByteArray) (hx : a.eval x = .string s) (hm : 0 < s.size) (hb : n + s.size ≤ 1073741824)
    (h : ∀ v' w', w'.ownsRow B 5 1 v' (n + s.size) (xs ++ bs s.data.toList) → Below B w w' → wpList Trym.prog ops Q rest (a.put o.dst v') w') : wpList Trym.prog ops Q (o :: rest) a w := by
  refine wpList_plain hgd fun K hK => ?_
  obtain ⟨v', w', hr, h2, h3⟩ := run_onto_string B hB o.type v n xs hon s hm hb
  unfold Oper.wp execOp
  simp only [ho, resolve, invoke, builtin, Sem.run_bind, Sem.run_pure, Result.andThen_ok, List.map_toArray, List.map_cons, List.map_nil, hs, hx, hr]
  exact hK _ _ (h v' w' h2 h3)

/-- One byte, as a fresh row of one. -/
theorem one_news (w : World) (g : Nat) (c : UInt8) (h : w.cell? ⟨g, 0, none⟩ = some (.int .u8 c.toNat)) : ∀ j u, (bs [c])[j]? = some u → w.cell? ((⟨g, 0, none⟩ : Addr).add j) = some u := by
  intro j u hj
  match j, hj with
  | 0, hj => simp [bs] at hj; subst hj; simpa [Addr.add] using h

/-! ### the same, a list of bytes at a time -/
/-- The value owns the bytes l. -/
def Own (B : Nat) (w : World) (v : Value) (l : List UInt8) : Prop := w.ownsRow B 5 1 v l.length (bs l)
def OntoL (B : Nat) (w : World) (v : Value) (l : List UInt8) : Prop := Onto B w v l.length (bs l)
theorem Own.onto {B : Nat} {w : World} {v : Value} {l : List UInt8} (h : Own B w v l) : OntoL B w v l := .inl h
theorem Own.alloc {B : Nat} {w : World} {v : Value} {l : List UInt8} (h : Own B w v l) (o : Obj) : Own B (w.alloc o) v l := World.ownsRow.alloc h o
theorem OntoL.alloc {B : Nat} {w : World} {v : Value} {l : List UInt8} (h : OntoL B w v l) (o : Obj) : OntoL B (w.alloc o) v l := Onto.alloc h o
theorem Own.mono {B B' : Nat} {w : World} {v : Value} {l : List UInt8} (h : Own B w v l) (hB : B' ≤ B) : Own B' w v l := owns_mono h hB
theorem Own.of {B : Nat} {w : World} {v : Value} {l m : List UInt8} (h : Own B w v l) (e : l = m) : Own B w v m := e ▸ h

theorem wpList_bytes {ops : Array Oper} {rest : List Oper} {o : Oper} {a : Act} {Q : Exit → Act → World → Prop} (w : World) (hgd : o.guard = none) (s x : Operand)
    (ho : o.op = .call { callee := .builtin .append, args := #[s, x], argTypes := #[29, 29] })
    (B : Nat) (hB : B ≤ w.heap.size) (v : Value) (k : List UInt8) (hs : a.eval s = v) (hon : OntoL B w v k)
    (ad : Addr) (m c : Nat) (l : List UInt8) (hx : a.eval x = .slice (some ad) m c) (hl : l.length = m) (hnews : ∀ j u, (bs l)[j]? = some u → w.cell? (ad.add j) = some u) (hm : 0 < m) (hb : k.length + m ≤ 1073741824)
    (h : ∀ v' w', Own B w' v' (k ++ l) → Below B w w' → wpList Trym.prog ops Q rest (a.put o.dst v') w') : wpList Trym.prog ops Q (o :: rest) a w := by
  refine wpList_onto_slice w hgd s x ho B hB v k.length (bs k) hs hon ad m c l hx hl hnews hm hb fun v' w' h1 h2 => h v' w' ?_ h2
  unfold Own; rw [bs_app, List.length_append, hl]; exact h1
theorem wpList_str {ops : Array Oper} {rest : List Oper} {o : Oper} {a : Act} {Q : Exit → Act → World → Prop} (w : World) (hgd : o.guard = none) (sl x : Operand)
    (ho : o.op = .call { callee := .builtin .append, args := #[sl, x], argTypes := #[29, 9] })
    (B : Nat) (hB : B ≤ w.heap.size) (v : Value) (k : List UInt8) (hs : a.eval sl = v) (hon : OntoL B w v k)
    (s : ByteArray) (hx : a.eval x = .string s) (hm : 0 < s.size) (hb : k.length + s.size ≤ 1073741824)
    (h : ∀ v' w', Own B w' v' (k ++ s.data.toList) → Below B w w' → wpList Trym.prog ops Q rest (a.put o.dst v') w') : wpList Trym.prog ops Q (o :: rest) a w := by
  refine wpList_onto_string w hgd sl x ho B hB v k.length (bs k) hs hon s hx hm hb fun v' w' h1 h2 => h v' w' ?_ h2
  unfold Own; rw [bs_app, List.length_append, show s.data.toList.length = s.size from by simp]; exact h1

end Go.Proofs.Qxb6003610aMods
