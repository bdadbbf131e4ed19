/-
  SMALL CONTRACTS for the writer's law: the clone of any slice of bytes, the guard on sizes.
-/
import Derived.Test.Qxb6003610aModsAppend
import Derived.Test.Qxb6003610aModsClone
namespace Go.Proofs.Qxb6003610aMods
open Go.RowKit

theorem add_plain (b off i : Nat) : (⟨b, off, none⟩ : Addr).add i = ⟨b, off + i, none⟩ := by
  unfold Addr.add; split <;> simp_all

/-- What a slice of bytes that is read holds. -/
def In (w : World) (ao : Option Addr) (n cap : Nat) (l : List UInt8) : Prop :=
  (ao = none → n = 0 ∧ cap = 0) ∧ l.length = n ∧ ∀ b, ao = some b → ∀ i, i < n → w.cell? (b.add i) = some (.int .u8 (Num.cd l i))

theorem clone_any (ao : Option Addr) (n cap : Nat) (l : List UInt8) (w : World) (hin : In w ao n cap l) (hn : n ≤ 1048576) :
    Calls Trym.prog 11 #[.slice ao n cap] w fun e w' => ∃ ao', e = .returned (.slice ao' n n) ∧ In w' ao' n n l ∧ (ao' = none ∨ (ao' = some ⟨w.heap.size, 0, none⟩ ∧ w.heap.size < w'.heap.size)) ∧ Below w.heap.size w w' := by
  obtain ⟨h1, h2, h3⟩ := hin
  cases ao with
  | none =>
    obtain ⟨rfl, rfl⟩ := h1 rfl
    refine (clone_nil w).mono fun e w' ⟨he, hw⟩ => ⟨none, he, ⟨fun _ => ⟨rfl, rfl⟩, h2, fun b hb => by cases hb⟩, .inl rfl, by rw [hw]; exact Below.refl _ _⟩
  | some x =>
    by_cases h0 : n = 0
    · subst h0
      refine (clone_empty x cap w).mono fun e w' ⟨he, hw, hb⟩ => ⟨_, he, ⟨fun h => (by cases h), h2, fun b hb i hi => absurd hi (Nat.not_lt_zero _)⟩, .inr ⟨rfl, (hw.lt _ rfl).2⟩, hb⟩
    · obtain ⟨b, off, spot⟩ := x
      have hc := h3 _ rfl 0 (by omega)
      have hspot : spot = none := by simpa [Addr.add] using World.cell?_spot hc
      subst hspot
      refine (clone_row b off n cap l w h2 hn (fun i hi => by rw [← add_plain]; exact h3 _ rfl i hi)).mono fun e w' ⟨he, hw, hb⟩ => ⟨_, he, ⟨fun h => (by cases h), h2, fun b' hb' i hi => ?_⟩, .inr ⟨rfl, (hw.lt _ rfl).2⟩, hb⟩
      cases hb'
      have := hw.cellAt i (by omega)
      rw [bs_get l i (by omega)] at this
      rw [add_plain, Nat.zero_add]; exact this

theorem In.full {w : World} {ao : Option Addr} {n : Nat} {l : List UInt8} (h : In w ao n n l) : Full w (.slice ao n n) l.length (bs l) := by
  obtain ⟨h1, h2, h3⟩ := h
  refine ⟨ao, by rw [h2], fun e => by rw [h2]; exact (h1 e).1, bs_len l, fun b hb j u hj => ?_⟩
  have hj2 : j < l.length := by
    rcases Nat.lt_or_ge j l.length with c | c
    · exact c
    · rw [List.getElem?_eq_none (by rw [bs_len]; exact c)] at hj; cases hj
  rw [bs_get l j hj2] at hj
  rw [h3 b hb j (by omega)]; exact hj
theorem In.below {w w' : World} {ao : Option Addr} {n cap : Nat} {l : List UInt8} (h : In w ao n cap l) (B : Nat) (hB : ao = none ∨ ∃ g, ao = some ⟨g, 0, none⟩ ∧ g < B) (hb : Below B w w') : In w' ao n cap l := by
  obtain ⟨h1, h2, h3⟩ := h
  refine ⟨h1, h2, fun b hb' i hi => ?_⟩
  rw [← h3 b hb' i hi]
  rcases hB with rfl | ⟨g, rfl, hg⟩
  · cases hb'
  · cases hb'
    exact hb.cell (by rw [add_plain]; exact hg)

theorem own_shape {B : Nat} {w : World} {v : Value} {l : List UInt8} (h : Own B w v l) (hl : 0 < l.length) : ∃ g cap, v = .slice (some ⟨g, 0, none⟩) l.length cap ∧ l.length ≤ cap ∧ cap ≤ maxLen ∧
    ∀ i, i < l.length → w.cell? ⟨g, i, none⟩ = some (.int .u8 (Num.cd l i)) := by
  rcases h.2 with ⟨_, h0⟩ | ⟨g, cap, cur, rfl, h1, h2, h3, h4, h5, h6⟩
  · omega
  · refine ⟨g, cap, rfl, h3, h4, fun i hi => ?_⟩
    rw [World.ownsRow.cellAt h i (by omega), bs_get l i hi]
/-- Append, its result written out. -/
theorem append_out (neg : Bool) (d : ByteArray) (x : Int) (v : Value) (l : List UInt8) (w : World) (hf : Full w v l.length (bs l)) (hd : d.size ≤ 1048576) (hn : l.length ≤ 1048576) (hx1 : -1048576 ≤ x) (hx2 : x ≤ 1048576) (ht : 0 < (Num.txt neg d.data.toList x).length) :
    Calls Trym.prog 12 #[.agg #[.bool neg, .string d, .int .i64 x], v] w fun e w' => ∃ g cap N, e = .returned (.slice (some ⟨g, 0, none⟩) N cap) ∧ Hid (N = l.length + (Num.txt neg d.data.toList x).length) ∧ N ≤ cap ∧ cap ≤ maxLen ∧
      Hid (∀ i, i < N → w'.cell? ⟨g, i, none⟩ = some (.int .u8 (Num.cd (l ++ Num.txt neg d.data.toList x) i))) ∧ Below w.heap.size w w' := by
  refine (append_any neg d x v l w hf hd hn hx1 hx2).mono fun e w' ⟨v', he, ho, hb⟩ => ?_
  obtain ⟨g, cap, hv, h1, h2, h3⟩ := own_shape ho (by rw [List.length_append]; omega)
  exact ⟨g, cap, _, by rw [he, hv], List.length_append, h1, h2, h3, hb⟩

set_option maxRecDepth 100000 in
set_option maxHeartbeats 400000 in
theorem bytes4_any (ao : Option Addr) (n cap : Nat) (neg : Bool) (d : ByteArray) (x : Int) (w : World) (hn : n ≤ 9223372036854775807) (hd : d.size ≤ 9223372036854775807) :
    Calls Trym.prog 9 #[.slice ao n cap, .bool neg, .string d, .int .i64 x] w fun e w' => (∃ b, e = .returned (.bool b) ∧ (n ≤ 65536 → d.size ≤ 65536 → b = true)) ∧ w' = w := by
  by_cases h1 : n ≤ 1048576
  · by_cases h2 : d.size ≤ 1048576
    · by_cases h3 : n + d.size ≤ 1048576
      · go_enter Trym.func9, Trym.ntmps9
        go_wp2
        go_ret
        exact ⟨⟨true, rfl, fun _ _ => rfl⟩, rfl⟩
      · go_enter Trym.func9, Trym.ntmps9
        go_wp2
        go_ret
        exact ⟨⟨false, rfl, fun _ _ => by omega⟩, rfl⟩
    · go_enter Trym.func9, Trym.ntmps9
      go_wp2
      go_ret
      exact ⟨⟨false, rfl, fun _ _ => by omega⟩, rfl⟩
  · go_enter Trym.func9, Trym.ntmps9
    go_wp2
    go_ret
    exact ⟨⟨false, rfl, fun _ _ => by omega⟩, rfl⟩

end Go.Proofs.Qxb6003610aMods
