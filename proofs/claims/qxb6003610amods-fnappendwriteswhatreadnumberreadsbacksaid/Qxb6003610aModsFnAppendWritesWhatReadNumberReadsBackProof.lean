/-
  THE PROOF OF 'Rows.FnAppendWritesWhatReadNumberReadsBackSaid': the frame is the shell's (proof-skeleton.mjs); the walk goes by the contracts of Append and readNumber and by the plain law that the text written is read back.
-/
import Derived.Test.Qxb6003610aModsRows
import Derived.Test.Qxb6003610aModsClones
import Derived.Test.Qxb6003610aModsZRead
import Derived.WalkKit
import Derived.ProofKit
import Derived.OpenShut
import Derived.ShutString
import Derived.ChangeOld
import Derived.Below
namespace Go.Proofs.Qxb6003610aMods.fnAppendWritesWhatReadNumberReadsBack
open Go.ChangeShapes Go.WideShapes Go.ChangeAt Go.RowKit
open Go.ChangeMaps (open_string shut_string)
set_option linter.unusedVariables false

theorem own : ownKnob Trym.prog.godebug = none := by kernel_rfl
theorem laidOut : laidOutB Trym.prog = true := by kernel_rfl

/-- WHAT THE WALK IS TOLD OF A SLICE OF INTEGERS THAT CAME IN: it is nil; or it leads to a row of 'cap' cells, the numbers 'zs' (the first 'len' are its elements, the rest its spare room), each fitting its kind. -/
def IsRow (k : IntKind) (w : World) (a : Option Addr) (len cap : Nat) (zs : List Int) : Prop :=
  (a = none ∧ len = 0 ∧ cap = 0 ∧ zs = []) ∨
  ∃ x, a = some x ∧ len ≤ cap ∧ cap ≤ maxLen ∧ zs.length = cap ∧ (∀ i, i < zs.length → w.cell? (x.add i) = some (.int k (zs.getD i 0))) ∧ ∀ n ∈ zs, (Lit.int k n).wf = true

/-! ### STEP 1: THE WALK: the Go text returns true, and writes nothing that was there. -/
/-- What came in, as bytes. -/
def lst (len : Nat) (zs : List Int) : List UInt8 := (zs.take len).map fun n => UInt8.ofNat n.toNat
theorem row_in {w : World} {a : Option Addr} {len cap : Nat} {zs : List Int} (h : IsRow .u8 w a len cap zs) : In w a len cap (lst len zs) ∧ len ≤ maxLen := by
  rcases h with ⟨rfl, rfl, rfl, rfl⟩ | ⟨x, rfl, h1, h2, h3, h4, h5⟩
  · exact ⟨⟨fun _ => ⟨rfl, rfl⟩, rfl, fun b hb => by cases hb⟩, Nat.zero_le _⟩
  · refine ⟨⟨fun h => (by cases h), by simp [lst]; omega, fun b hb i hi => ?_⟩, by omega⟩
    cases hb
    rw [h4 i (by omega)]
    have hm : zs.getD i 0 ∈ zs := by
      rw [List.getD_eq_getElem?_getD, List.getElem?_eq_getElem (by omega)]; simp
    have hw := h5 _ hm
    simp [Lit.wf, IntKind.min, IntKind.max, IntKind.signed, IntKind.bits] at hw
    have e : (lst len zs).getD i 0 = UInt8.ofNat (zs.getD i 0).toNat := by
      simp [lst, List.getD_eq_getElem?_getD, hi, show i < zs.length from by omega]
    unfold Num.cd; rw [e]
    have hw' : (0 : Int) ≤ zs.getD i 0 ∧ zs.getD i 0 ≤ 255 := by
      rw [List.getD_eq_getElem?_getD]; omega
    generalize zs.getD i 0 = q at hw' ⊢
    have : ((UInt8.ofNat q.toNat).toNat : Int) = q := by
      rw [UInt8.toNat_ofNat']; omega
    rw [this]

theorem txt_len (neg : Bool) (d : List UInt8) (x : Int) (hd : d.length ≤ 65536) (h1 : -65536 ≤ x) (h2 : x ≤ 65536) : 0 < (Num.txt neg d x).length ∧ (Num.txt neg d x).length ≤ 400000 := by
  unfold Num.txt
  split
  · simp
  · rename_i hne
    have h0 : 0 < d.length := by
      cases d with
      | nil => simp at hne
      | cons => simp
    have hs : (Num.sgn neg).length ≤ 1 := by cases neg <;> simp [Num.sgn]
    unfold Num.body
    rw [List.length_append]
    split
    · simp; omega
    · split
      · simp; omega
      · simp; omega

/-- The bytes behind the first n, as a string. -/
theorem conv_out (w : World) (m g n N cap : Nat) (t l : List UInt8) (hl : l.length = n) (hN : N = l.length + t.length) (hc : ∀ i, i < N → w.cell? ⟨g, i, none⟩ = some (.int .u8 (Num.cd (l ++ t) i))) :
    ∃ T : ByteArray, T.data.toList = t ∧ (convert 29 9 (.slice (some ⟨g, n, none⟩) (N - n) (cap - n))).run Trym.prog (w.drewN m) = .ok (.string T) (w.drewN m) := by
  refine ⟨strOfNums (t.map fun c => (c.toNat : Int)), ?_, ?_⟩
  · rw [strOfNums_data, List.map_map]
    conv => rhs; rw [← List.map_id t]
    apply List.map_congr_left
    intro c _
    simp
  · refine run_convert_bytes_arg (P := Trym.prog) (w.drewN m) 29 5 Trym.underlying29 Trym.underlying5 g n (N - n) (cap - n) (t.map fun c => (c.toNat : Int)) (by simp; omega) (fun i hi => ?_) 9 Trym.underlying9
    rw [World.cell?_drewN, hc (n + i) (by omega), Num.cd_app_right _ _ _ (by omega), hl, show n + i - n = i from by omega]
    unfold Num.cd
    simp [List.getD_eq_getElem?_getD, show i < t.length from by omega]

set_option maxRecDepth 100000 in
set_option maxHeartbeats 2000000 in
theorem walk (a0 : Option Addr) (len0 cap0 : Nat) (z0 : List Int) (a1 : Bool) (a2 : ByteArray) (a3 : Int) (w : World) (w0 : IsRow .u8 w a0 len0 cap0 z0) (w2 : a2.size ≤ maxLen) (w3 : (Lit.int .i64 a3).wf = true) :
    Calls Trym.prog 4 #[.slice a0 len0 cap0, .bool a1, .string a2, .int .i64 a3] w fun e w' => e = .returned (.bool true) ∧ Below w.heap.size w w' := by
  obtain ⟨hin, hlen⟩ := row_in w0
  unfold maxLen at w2 hlen
  generalize lst len0 z0 = l at hin
  clear w0 w3
  by_cases hsm : len0 ≤ 65536 ∧ a2.size ≤ 65536
  case neg =>
    by_cases h1 : len0 ≤ 65536
    · have h2 : 65536 < a2.size := by omega
      clear hsm
      go_enter Trym.func4, Trym.ntmps4
      go_wp2_with fail
      refine (bytes4_any _ _ _ _ _ _ _ (by omega) (by omega)).mono ?_
      rintro e w' ⟨⟨b, rfl, -⟩, rfl⟩
      cases b
      all_goals
        go_wp2
        go_ret
        exact ⟨rfl, Below.refl _ _⟩
    · have h2 : 65536 < len0 := by omega
      clear hsm h1
      go_enter Trym.func4, Trym.ntmps4
      go_wp2_with fail
      refine (bytes4_any _ _ _ _ _ _ _ (by omega) (by omega)).mono ?_
      rintro e w' ⟨⟨b, rfl, -⟩, rfl⟩
      cases b
      all_goals
        go_wp2
        go_ret
        exact ⟨rfl, Below.refl _ _⟩
  obtain ⟨hs1, hs2⟩ := hsm
  have hsi1 : (len0 : Int) ≤ 65536 := by omega
  have hsi2 : (a2.size : Int) ≤ 65536 := by omega
  by_cases hx1 : a3 < -65536
  · go_enter Trym.func4, Trym.ntmps4
    go_wp2_with fail
    refine (bytes4_any _ _ _ _ _ _ _ (by omega) (by omega)).mono ?_
    rintro e w' ⟨⟨b, rfl, hb⟩, rfl⟩
    obtain rfl := hb hs1 hs2
    go_wp2
    go_ret
    exact ⟨rfl, Below.refl _ _⟩
  by_cases hx2 : 65536 < a3
  · go_enter Trym.func4, Trym.ntmps4
    go_wp2_with fail
    refine (bytes4_any _ _ _ _ _ _ _ (by omega) (by omega)).mono ?_
    rintro e w' ⟨⟨b, rfl, hb⟩, rfl⟩
    obtain rfl := hb hs1 hs2
    go_wp2
    go_ret
    exact ⟨rfl, Below.refl _ _⟩
  go_enter Trym.func4, Trym.ntmps4
  go_wp2_with fail
  refine (bytes4_any _ _ _ _ _ _ _ (by omega) (by omega)).mono ?_
  rintro e w' ⟨⟨b, rfl, hb⟩, rfl⟩
  obtain rfl := hb hs1 hs2
  clear hb
  go_wp2_with fail
  refine (canon_any _ _ _ _ (by omega)).mono ?_
  rintro e w'' ⟨rfl, rfl⟩
  cases hcan : Num.canonB a1 a2.data.toList a3
  · go_wp2
    go_ret
    exact ⟨rfl, Below.refl _ _⟩
  have HC : Hid (Num.canonB a1 a2.data.toList a3 = true) := hcan
  clear hcan
  go_wp2_with fail
  refine (clone_any _ _ _ l _ hin (by omega)).mono ?_
  rintro e w1 ⟨ao1, rfl, hin1, hao1, hb1⟩
  go_wp2_with fail
  refine (clone_any _ _ _ l _ hin1 (by omega)).mono ?_
  rintro e w2 ⟨ao2, rfl, hin2, hao2, hb2⟩
  have htl := txt_len a1 a2.data.toList a3 (by rw [len_s]; exact hs2) (by omega) (by omega)
  have hll : l.length = len0 := hin.2.1
  have hf : Full w2 (.slice ao1 len0 len0) l.length (bs l) := (hin1.below w1.heap.size (by rcases hao1 with h | ⟨h, h'⟩; exact .inl h; exact .inr ⟨_, h, h'⟩) hb2).full
  have HST : Hid (Num.Says (Num.txt a1 a2.data.toList a3) a1 a2.data.toList a3 true) := Num.says_txt _ _ _ HC.out
  go_wp2_with fail
  refine (append_out _ _ _ _ l _ (hf.alloc _) (by omega) (by omega) (by omega) (by omega) htl.1).mono ?_
  rintro e w3 ⟨g, cap, N, rfl, HN, hNc, hcm, HCell, hb3⟩
  unfold maxLen at hcm
  have hNlt : len0 < N := by rw [HN.out]; omega
  have hNb : N ≤ 500000 := by rw [HN.out]; omega
  have hin3 : In w3 ao2 len0 len0 l := by
    refine In.below hin2 w2.heap.size (by rcases hao2 with h | ⟨h, h'⟩; exact .inl h; exact .inr ⟨_, h, h'⟩) ?_
    exact ((Below.refl _ _).alloc (Nat.le_refl _) _).trans (hb3.mono (by simp))
  have HBW : Hid (Below w''.heap.size w'' w3) := hb1.trans ((hb2.mono hb1.size).trans ((((Below.refl _ _).alloc (Nat.le_refl _) _).mono (Nat.le_trans hb1.size hb2.size)).trans (hb3.mono (by simp; have := hb1.size; have := hb2.size; omega))))
  have hao2' : ao2 = none ∨ ao2 = some ⟨w1.heap.size, 0, none⟩ := by rcases hao2 with h | ⟨h, _⟩; exact .inl h; exact .inr h
  clear hf hin1 hin2 hb1 hb2 hb3 hao1 hao2 hin
  go_upto_block 0 with fail
  go_cut [12] (fun i wx => ∃ m, wx = w3.drewN m)
  case first =>
    rcases hao2' with rfl | rfl
    · obtain ⟨rfl, -⟩ := hin3.1 rfl
      go_wp2_with fail
      refine wp_loop_rounds 1 ?_
      rw [rounds_succ]
      go_wp2
      go_meet
      case rel => exact ⟨0, rfl⟩
    · go_wp2_with fail
      go_loopw [12] (fun i wr => ∃ (k m : Nat), k ≤ len0 ∧ i = .int .i64 k ∧ wr = w3.drewN m) (fun i _ => len0 - (intOf i).toNat)
      case atStart => exact ⟨0, 0, Nat.zero_le _, rfl, rfl⟩
      case round =>
        obtain ⟨k, m, hk, rfl, rfl⟩ := hrel
        by_cases hlt : k < len0
        · have c1 : w3.cell? ⟨w1.heap.size, k, none⟩ = some (.int .u8 (Num.cd l k)) := by
            have := hin3.2.2 _ rfl k hlt
            rw [add_plain, Nat.zero_add] at this; exact this
          have c2 : w3.cell? ⟨g, k, none⟩ = some (.int .u8 (Num.cd l k)) := by
            rw [HCell.out k (by omega), Num.cd_app_left _ _ _ (by omega)]
          have hki : (k : Int) < (len0 : Int) := by omega
          have hkN : (k : Int) < (N : Int) := by omega
          go_wp2
          go_quiet (fail)
          go_wp2
          go_roundw
          case rel => exact ⟨k + 1, _, by omega, by go_num, rfl⟩
          case measure => simp [intOf]; omega
        · go_wp2
          go_meet
          case rel => exact ⟨m, rfl⟩
  case rest =>
  obtain ⟨m, rfl⟩ := hcut
  obtain ⟨T, hT, hconv⟩ := conv_out w3 m g len0 N cap (Num.txt a1 a2.data.toList a3) l hll HN.out HCell.out
  have hTs : T.size ≤ 400000 := by rw [size_l T _ hT]; exact htl.2
  have HT : Hid (T.data.toList = Num.txt a1 a2.data.toList a3) := hT
  clear hT HCell htl hin3 hao2'
  go_wp2_with fail
  refine (zzread_any T _ (by omega)).mono ?_
  rintro e w4 ⟨n, d, x, o, rfl, hS, -, hb4⟩
  rw [HT.out] at hS
  obtain ⟨rfl, hd, rfl, rfl⟩ := hS.one HST.out
  obtain rfl := bytes_ext hd
  clear hS hd
  go_wp2
  go_ret
  exact ⟨rfl, HBW.out.trans (((below_drewN (Below.refl _ w3) m).mono HBW.out.size).trans (hb4.mono HBW.out.size)) |>.alloc (by have := HBW.out.size; have := hb4.size; simp at this; omega) _⟩

/-! ### THE ROW's STEP: WRITTEN OUT: LEAVE IT -/
set_option maxRecDepth 100000 in
theorem lifted (os : Os) (started : os.Started) (H : Type) (enc : TypeId × Value → H) :
    ReturnsInHanded {} Trym.checked os 4 .any (Rows.fnAppendWritesWhatReadNumberReadsBackSpec.pre6 enc Trym.prog Trym.f4 Rows.fnAppendWritesWhatReadNumberReadsBackRow.domain false) (Rows.fnAppendWritesWhatReadNumberReadsBackSpec.post enc Trym.prog Trym.f4 false true false false) := by
  refine returnsInHanded_of_change (C := Trym.checked) own started (by kernel_rfl) Trym.func4
    (ChangeSpec.witness6 (enc := enc) (C := Trym.checked) false ⟨#[], #[.slice none 0 0, .bool false, .string ByteArray.empty, .int .i64 0], []⟩ 8 (by kernel_rfl) (by kernel_rfl) (by kernel_rfl) (by kernel_rfl)) ?_
  intro W base args ds gs before hval0 hW hcnd _
  have hval : ∀ (j : Nat) t v, Trym.f4.params[j]? = some t → args[j]? = some v → Value.okWide Trym.prog W .any base t v := hval0
  have hW' := hW
  obtain ⟨p, q, hA0, hV, rfl, hfz, hnd⟩ := hW
  have hA : DataW.TrodAll enc Trym.prog W 0 (fun _ => true) true Trym.f4.params.toList args.toList ds p := hA0
  rw [Trym.params4] at hA hval
  obtain ⟨v0, vs0, d0, ds0, p0, q0, hargs, rfl, rfl, h0, r0⟩ := trodAll_cons hA
  obtain ⟨v1, vs1, d1, ds1, p1, q1, rfl, rfl, rfl, h1, r1⟩ := trodAll_cons r0
  obtain ⟨v2, vs2, d2, ds2, p2, q2, rfl, rfl, rfl, h2, r2⟩ := trodAll_cons r1
  obtain ⟨v3, vs3, d3, ds3, p3, q3, rfl, rfl, rfl, h3, r3⟩ := trodAll_cons r2
  obtain ⟨rfl, rfl, rfl⟩ := trodAll_nil r3
  obtain rfl : args = #[v0, v1, v2, v3] := by cases args; simp_all
  obtain ⟨rfl, rfl⟩ := trodVars_none hV
  obtain ⟨a0, len0, cap0, rfl⟩ := okWide_slice Trym.underlying29 (hval 0 29 v0 rfl rfl)
  have k0 := h0
  have lt0 : ∀ x ∈ p0, x.block < W.heap.size := by obtain ⟨m, hm⟩ := k0; exact DataW.trod_lt m _ _ _ hm
  obtain ⟨z0, w0⟩ : ∃ zs, IsRow .u8 W a0 len0 cap0 zs := by
    obtain ⟨fuel, hf⟩ := h0
    rcases open_ints Trym.underlying29 Trym.underlying5 (by kernel_rfl) hf with ⟨hcs, _⟩ | ⟨x, l, c, zs, hcs, _, hl, hm, hz, _, hcell, hwz⟩
    · simp [Value.cells] at hcs
      obtain ⟨rfl, rfl, rfl⟩ := hcs
      exact ⟨[], .inl ⟨rfl, rfl, rfl, rfl⟩⟩
    · simp [Value.cells] at hcs
      obtain ⟨rfl, rfl, rfl⟩ := hcs
      exact ⟨zs, .inr ⟨_, rfl, hl, hm, by simpa using hz, hcell, hwz⟩⟩
  obtain ⟨a1, rfl, rfl, rfl⟩ := open_bool Trym.underlying4 (hval 1 4 v1 rfl rfl) h1
  obtain ⟨a2, rfl, rfl, rfl, w2⟩ := open_string Trym.underlying9 (hval 2 9 v2 rfl rfl) h2
  obtain ⟨a3, rfl, rfl, rfl, w3⟩ := open_int Trym.underlying3 (hval 3 3 v3 rfl rfl) h3
  clear hA0 hval0
  refine (walk a0 len0 cap0 z0 a1 a2 a3 W w0 w2 w3).mono fun e W' ⟨he, bel⟩ => ?_
  subst he
  exact ⟨_, rfl, _, _, _, [], _, [], hW', trodAll_mk1 (shut_bool Trym.underlying4 _), (trodAll_cons_mk (Below.trod laidOut (by kernel_rfl) (of_decide_eq_true (by kernel_rfl)) k0 bel lt0) (trodAll_cons_mk (shut_bool Trym.underlying4 _) (trodAll_cons_mk (shut_string Trym.underlying9 w2) (trodAll_cons_mk (shut_int Trym.underlying3 w3) trodAll_mk0)))), rfl, bel.frame _, fun h => by cases h⟩

theorem over : Rows.fnAppendWritesWhatReadNumberReadsBackRow.holds Trym.pinned (OpenSpec.ofChange Rows.fnAppendWritesWhatReadNumberReadsBackSpec) :=
  OpenClaim.holds_of_wide 4 Trym.f4 rfl rfl rfl rfl rfl rfl rfl ⟨rfl, rfl, rfl, rfl, rfl⟩ rfl rfl rfl rfl rfl (by kernel_rfl) Trym.func4 (by kernel_rfl)
    (of_decide_eq_true (by kernel_rfl)) (by unfold Func.isWrapper; first | (rw [if_pos (by decide +kernel)]; kernel_rfl) | (rw [if_neg (by decide +kernel)]; exact ⟨rfl, rfl⟩))
    (fun os started H enc _ => lifted os started H enc)

/-- ████ THE STATEMENT ████ -/
theorem proved : Rows.FnAppendWritesWhatReadNumberReadsBackSaid := over
#print axioms proved
end Go.Proofs.Qxb6003610aMods.fnAppendWritesWhatReadNumberReadsBack
