/-
  'Rows.FnNulStringRoundTripSaid', PROVED. The frame is the seed's shell (proof-skeleton.mjs); the walk is out of the contracts of WalkA to WalkI.
-/
import Derived.Test.Qxb6001749aRows
import Derived.Test.Qxb6001749aWalkI
import Derived.WalkKit
import Derived.ProofKit
import Derived.OpenShut
import Derived.ShutString
import Derived.ChangeOld
import Derived.Below
namespace Go.Proofs.Qxb6001749a.fnNulStringRoundTrip
open Go.ChangeShapes Go.WideShapes Go.ChangeAt Go.RowKit
open Go.ChangeMaps (open_string shut_string)
set_option linter.unusedVariables false

theorem own : ownKnob Try.prog.godebug = none := by kernel_rfl
theorem laidOut : laidOutB Try.prog = true := by kernel_rfl

theorem zero_step (s : ByteArray) (k : Nat) (hk : k < s.size) (hz : ∀ j, j < k → (0 == (bo s).getD j 0) = false) (h : (((s[k]'hk).toNat : Int) == 0) = false) : ∀ j, j < k + 1 → (0 == (bo s).getD j 0) = false := by
  intro j hj
  by_cases hjk : j < k
  · exact hz j hjk
  · have : j = k := by omega
    subst this
    rw [bo_get s j hk]
    simp at h ⊢
    omega

theorem front_zero (s : ByteArray) (a tl : List Int) (hz : ∀ j, j < s.size → (0 == (bo s).getD j 0) = false) : ∀ i, i < s.size → (0 == (bo s ++ a ++ tl).getD i 0) = false := by
  intro i hi
  have h := hz i hi
  have e : (bo s ++ a ++ tl).getD i 0 = (bo s).getD i 0 := by
    unfold List.getD
    rw [List.append_assoc, List.getElem?_append_left (by rw [bo_length]; exact hi)]
  rw [e]
  exact h

theorem at_zero (s : ByteArray) (tl : List Int) : (bo s ++ [0] ++ tl).getD s.size 0 = 0 := by
  unfold List.getD
  rw [List.append_assoc, List.getElem?_append_right (by rw [bo_length]; exact Nat.le_refl _), bo_length, Nat.sub_self]
  rfl

theorem front_str (s : ByteArray) (a tl : List Int) : strOfNums ((bo s ++ a ++ tl).take s.size) = s := by
  rw [List.append_assoc, ← bo_length s, List.take_left, bo_str]

theorem behind_zero (s : ByteArray) (tl : List Int) : (bo s ++ [0] ++ tl).drop (s.size + 1) = tl := by
  have : s.size + 1 = (bo s ++ [0]).length := by simp [bo_length]
  rw [this, List.drop_left]

theorem fill_bo (s : ByteArray) (j : Nat) (h : j < s.size) : (fill (bo s) j).setIfInBounds j (.int .u8 ((s[j]'h).toNat : Int)) = fill (bo s) (j + 1) := by
  have hl : j < (bo s).length := by rw [bo_length]; exact h
  have e : (bo s)[j]'hl = ((s[j]'h).toNat : Int) := by
    have := bo_get? s j h
    rw [List.getElem?_eq_getElem hl] at this
    exact Option.some.inj this
  rw [← e]
  exact fill_step (bo s) j hl

set_option maxHeartbeats 800000 in
theorem core {w : World} {ao : Option Addr} {m c : Nat} {tl : List Int} (s : ByteArray) (h : Arg w ao m tl) (hs : s.size ≤ 524288) (hm : m ≤ 524288) :
    Calls Try.prog 8 #[.string s, .slice ao m c] w fun e w' => e = .returned (.bool true) ∧ Below w.heap.size w w' := by
  obtain ⟨i0, hi, hz0, hz1, hz2⟩ := info_parts Try.info5
  have htl := h.1
  go_enter Try.func8, Try.ntmps8
  go_wp2_with fail
  refine (bytes25_yes s ao m c w (by omega)).mono ?_
  rintro e w0 ⟨rfl, rfl⟩
  go_wp2_with fail
  go_loop [5] (fun i => ∃ k : Nat, k ≤ s.size ∧ i = .int .i64 k ∧ ∀ j, j < k → (0 == (bo s).getD j 0) = false) (fun i => s.size - (intOf i).toNat)
  case atStart => exact ⟨0, Nat.zero_le _, rfl, fun j hj => by omega⟩
  case round =>
    obtain ⟨k, hk, rfl, hz⟩ := hrel
    by_cases hlt : k < s.size
    · go_wp2
      · go_ret
        exact ⟨rfl, Below.refl _ _⟩
      · have hne : (((s[k]'hlt).toNat : Int) == 0) = false := by assumption
        go_round
        case rel => exact ⟨k + 1, by omega, by go_num, zero_step s k hlt hz hne⟩
        case measure => simp [intOf]; omega
    · have hkk : s.size = k := by omega
      have HZ : Hid (∀ j, j < s.size → (0 == (bo s).getD j 0) = false) := by rw [hkk]; exact hz
      have hle : ¬ (k : Int) < s.size := by omega
      clear hz hkk
      go_wp2_with fail
      refine (clone_stands h (by omega)).mono ?_
      rintro e w1 ⟨a1, c1, rfl, g1, hT, hnil⟩
      have B1 := bel_start g1
      clear h g1
      go_wp2_with (at_make; refine wpList_make_own _ rfl _ _ 22 rfl w1.heap.size 5 i0 (.int .u8 0) 1 Try.underlying22 hi hz0 hz1 _ _ _ (s.size + 1 + m) rfl rfl (by omega) ?b2 ?b3 (Nat.le_refl _) ?_)
      case b2 => rw [hz2]; omega
      case b3 => unfold maxLen; omega
      intro w2 hown2 hgrow2
      have N2 := bel_start hgrow2
      clear hgrow2
      go_wp2
      go_loopw [6, 7] (fun v i wr => ∃ j : Nat, j ≤ s.size ∧ i = .int .i64 j ∧ v = .slice (some ⟨w1.heap.size, 0, none⟩) j (s.size + 1 + m) ∧
          wr.ownsRow w1.heap.size 5 1 (.slice (some ⟨w1.heap.size, 0, none⟩) j (s.size + 1 + m)) j (cellsOf ((bo s).take j)) ∧ Below w1.heap.size w1 wr) (fun _ i _ => s.size - (intOf i).toNat)
      case atStart => exact ⟨0, Nat.zero_le _, rfl, rfl, hown2, N2⟩
      case round =>
        obtain ⟨j, hj, rfl, rfl, hown, hnx⟩ := hrel
        by_cases hjl : j < s.size
        · go_wp2_with (at_builtin; refine wpList_append_fits _ rfl (.tmp 49) (.tmp 53) 22 rfl w1.heap.size 5 i0 1 Try.underlying22 hi hz1 w1.heap.size j (s.size + 1 + m) _ rfl (hown.alloc _) ⟨wr.heap.size, 0, none⟩ 1 1 [.int .u8 ((s[j]'hjl).toNat : Int)] rfl rfl ?c1 ?c2 ?c3 ?_)
          case c1 => intro t u ht; exact cells_new _ _ _ t u ht
          case c2 => exact ints_oneCell .u8 [((s[j]'hjl).toNat : Int)]
          case c3 => omega
          intro w3 hown3 hgrow3
          have e3 : cellsOf ((bo s).take j) ++ [.int .u8 ((s[j]'hjl).toNat : Int)] = cellsOf ((bo s).take (j + 1)) := by rw [bo_take s j hjl]; simp [cellsOf]
          rw [e3] at hown3
          have N3 := (hnx.alloc hnx.size _).grown hgrow3 (by simp; have := hnx.size; omega) (fun t ht => by cases ht; exact Nat.le_refl _)
          clear e3 hgrow3 hown
          go_wp2
          go_roundw
          case rel => exact ⟨j + 1, by omega, by go_num, rfl, hown3, N3⟩
          case measure => simp [intOf]; omega
        · have hje : j = s.size := by omega
          subst hje
          rw [List.take_of_length_le (by rw [bo_length]; exact Nat.le_refl _)] at hown
          clear hj
          go_wp2_with (at_builtin; refine wpList_append_fits _ rfl (.tmp 55) (.tmp 56) 22 rfl w1.heap.size 5 i0 1 Try.underlying22 hi hz1 w1.heap.size s.size (s.size + 1 + m) _ rfl (hown.alloc _) ⟨wr.heap.size, 0, none⟩ 1 1 [.int .u8 0] rfl rfl ?d1 ?d2 ?d3 ?_)
          case d1 => intro t u ht; exact cells_new _ _ _ t u ht
          case d2 => exact ints_oneCell .u8 [0]
          case d3 => omega
          intro w4 hown4 hgrow4
          have e4 : cellsOf (bo s) ++ [.int .u8 0] = cellsOf (bo s ++ [0]) := by simp [cellsOf]
          rw [e4] at hown4
          have N4 := (hnx.alloc hnx.size _).grown hgrow4 (by simp; have := hnx.size; omega) (fun t ht => by cases ht; exact Nat.le_refl _)
          clear e4 hgrow4 hown hnx
          obtain ⟨bt, vt⟩ := hT.out _ N4
          go_wp2_with (at_builtin; refine wpList_append_fits_any _ rfl (.tmp 58) (.tmp 59) 22 rfl w1.heap.size 5 i0 1 Try.underlying22 hi hz1 w1.heap.size (s.size + 1) (s.size + 1 + m) _ rfl hown4 a1 m c1 (cellsOf tl) rfl ?f1 hnil vt.cellsAt ?f2 ?f3 ?_)
          case f1 => rw [cellsOf_length, htl, Nat.mul_one]
          case f2 => exact ints_oneCell .u8 tl
          case f3 => omega
          intro w5 hown5 hgrow5
          rw [cellsOf_append] at hown5
          have N5 := N4.grown hgrow5 N4.size (fun t ht => by cases ht; exact Nat.le_refl _)
          clear hgrow5 hown4 N4 vt hnil
          obtain ⟨hl5, v5, hG⟩ := View.of_row hown5
          have HL5 := hid hl5.symm
          clear hown5 hl5
          go_wp2_with fail
          refine (reader_view v5 (by omega)).mono ?_
          rintro e w6 ⟨R, rfl, r6, v6, hbR, hR, g6⟩
          have N6 := bel_none N5 g6
          have hR' : w1.heap.size ≤ R := Nat.le_trans N5.size hR
          clear v5 g6 N5
          go_wp2_with fail
          refine (zznul_some r6 v6 HL5.out hbR s.size (by omega) ?g1 ?g2).mono ?_
          case g1 => exact front_zero s [0] tl HZ.out
          case g2 => exact at_zero s tl
          rintro e w7 ⟨rfl, a7, r7, v7, g7⟩
          have N7 := bel_some N6 g7 hR'
          have e7 := front_str s [0] tl
          rw [e7]
          rw [behind_zero s tl, Nat.add_sub_cancel_left] at v7
          rw [Nat.add_sub_cancel_left] at r7
          clear e7 g7 r6 v6 N6
          obtain ⟨bt7, vt7⟩ := hT.out _ N7
          go_wp2_with fail
          refine (bad_any r7).mono ?_
          rintro e w8 ⟨rfl, rfl⟩
          go_wp2_with fail
          refine (rest_any r7).mono ?_
          rintro e w8 ⟨rfl, rfl⟩
          go_wp2_with fail
          refine (equal_any v7 vt7 htl htl).mono ?_
          rintro e w9 ⟨rfl, q, hw9⟩
          have N9 : Below w1.heap.size w1 w9 := by rw [hw9]; exact below_drewN N7 q
          rw [decide_eq_true rfl]
          have hmk := run_make_row' (P := Try.prog) 22 5 (.int .u8 0) 1 Try.underlying22 Try.info5 rfl .i64 .i64 s.size (by omega) (by omega)
          have f0 := fill_zero (bo s) s.size (bo_length s)
          clear hw9 v7 vt7 r7 N7 hT hbR hR hR' hG HL5
          go_wp2
          go_loopw [11] (fun i wr => ∃ j : Nat, j ≤ s.size ∧ i = .int .i64 j ∧ wr = w9.alloc (.cells (fill (bo s) j) 5)) (fun i _ => s.size - (intOf i).toNat)
          case atStart => exact ⟨0, Nat.zero_le _, rfl, rfl⟩
          case round =>
            obtain ⟨j, hj, rfl, rfl⟩ := hrel
            by_cases hjl : j < s.size
            · have hfs := fill_size (bo s) j (by rw [bo_length]; omega)
              rw [bo_length] at hfs
              go_wp2
              have hst := fill_bo s j hjl
              go_roundw
              case rel => exact ⟨j + 1, by omega, by go_num, by rw [hst]⟩
              case measure => simp [intOf]; omega
            · have hje : j = s.size := by omega
              subst hje
              have hff : fill (bo s) s.size = (cellsOf (bo s)).toArray := by rw [← bo_length s]; exact fill_full (bo s)
              have hown := owns_made w9 (bo s) s.size (bo_length s) (by omega)
              rw [hff]
              clear hff hmk f0 hj
              have N10 := N9.alloc N9.size (.cells (cellsOf (bo s)).toArray 5)
              obtain ⟨w10, hw10⟩ : ∃ w10, w10 = w9.alloc (.cells (cellsOf (bo s)).toArray 5) := ⟨_, rfl⟩
              rw [← hw10] at hown N10 ⊢
              clear hw10
              obtain ⟨hl10, v10, hG10⟩ := View.of_row hown
              clear hown hl10
              go_wp2_with fail
              refine (reader_view v10 (by omega)).mono ?_
              rintro e w11 ⟨R2, rfl, r11, v11, hbR2, hR2, g11⟩
              have N11 := bel_none N10 g11
              have hR2' : w1.heap.size ≤ R2 := Nat.le_trans N10.size hR2
              clear v10 g11 N10 hR2
              go_wp2_with fail
              refine (zznul_none r11 v11 (bo_length s) HZ.out).mono ?_
              rintro e w12 ⟨rfl, r12, g12⟩
              have N12 := bel_some N11 g12 hR2'
              rw [bo_str]
              clear r11 v11 g12 N11
              go_wp2_with fail
              refine (bad_any r12).mono ?_
              rintro e w13 ⟨rfl, rfl⟩
              go_wp2_with fail
              refine (rest_any r12).mono ?_
              rintro e w14 ⟨rfl, rfl⟩
              go_wp2
              go_ret
              exact ⟨rfl, B1.trans (N12.mono B1.size)⟩

theorem wide {w : World} {ao : Option Addr} {m c : Nat} (s : ByteArray) (hs : s.size ≤ 9223372036854775807) (hm : m ≤ 9223372036854775807) (h : 1048576 < s.size + m) :
    Calls Try.prog 8 #[.string s, .slice ao m c] w fun e w' => e = .returned (.bool true) ∧ Below w.heap.size w w' := by
  go_enter Try.func8, Try.ntmps8
  go_wp2_with fail
  refine (bytes25_no s ao m c w h hs hm).mono ?_
  rintro e w0 ⟨rfl, rfl⟩
  go_wp2
  go_ret
  exact ⟨rfl, Below.refl _ _⟩

theorem long_s {w : World} {ao : Option Addr} {m c : Nat} (s : ByteArray) (h : s.size + m ≤ 1048576) (hs : 524288 < s.size) :
    Calls Try.prog 8 #[.string s, .slice ao m c] w fun e w' => e = .returned (.bool true) ∧ Below w.heap.size w w' := by
  go_enter Try.func8, Try.ntmps8
  go_wp2_with fail
  refine (bytes25_yes s ao m c w h).mono ?_
  rintro e w0 ⟨rfl, rfl⟩
  go_wp2
  go_ret
  exact ⟨rfl, Below.refl _ _⟩

theorem long_m {w : World} {ao : Option Addr} {m c : Nat} (s : ByteArray) (h : s.size + m ≤ 1048576) (hs : s.size ≤ 524288) (hm : 524288 < m) :
    Calls Try.prog 8 #[.string s, .slice ao m c] w fun e w' => e = .returned (.bool true) ∧ Below w.heap.size w w' := by
  go_enter Try.func8, Try.ntmps8
  go_wp2_with fail
  refine (bytes25_yes s ao m c w h).mono ?_
  rintro e w0 ⟨rfl, rfl⟩
  go_wp2
  go_ret
  exact ⟨rfl, Below.refl _ _⟩

theorem walk (a0 : ByteArray) (a1 : Option Addr) (len1 cap1 : Nat) (z1 : List Int) (w : World) (w0 : a0.size ≤ maxLen) (w1 : IsRow .u8 w a1 len1 cap1 z1) :
    Calls Try.prog 8 #[.string a0, .slice a1 len1 cap1] w fun e w' => e = .returned (.bool true) ∧ Below w.heap.size w w' := by
  obtain ⟨ha, _, hl⟩ := w1.arg
  unfold maxLen at w0
  by_cases h : 1048576 < a0.size + len1
  · exact wide a0 (by omega) hl h
  · by_cases h1 : 524288 < a0.size
    · exact long_s a0 (by omega) h1
    · by_cases h2 : 524288 < len1
      · exact long_m a0 (by omega) (by omega) h2
      · exact core a0 ha (by omega) (by omega)

/-! ### THE ROW's STEP: WRITTEN OUT: LEAVE IT -/
set_option maxRecDepth 100000 in
theorem lifted (os : Os) (started : os.Started) (H : Type) (enc : TypeId × Value → H) :
    ReturnsInHanded {} Try.checked os 8 .any (Rows.fnNulStringRoundTripSpec.pre6 enc Try.prog Try.f8 Rows.fnNulStringRoundTripRow.domain false) (Rows.fnNulStringRoundTripSpec.post enc Try.prog Try.f8 false true false false) := by
  refine returnsInHanded_of_change (C := Try.checked) own started (by kernel_rfl) Try.func8
    (ChangeSpec.witness6 (enc := enc) (C := Try.checked) false ⟨#[], #[.string ByteArray.empty, .slice none 0 0], []⟩ 8 (by kernel_rfl) (by kernel_rfl) (by kernel_rfl) (by kernel_rfl)) ?_
  intro W base args ds gs before hval0 hW hcnd _
  have hval : ∀ (j : Nat) t v, Try.f8.params[j]? = some t → args[j]? = some v → Value.okWide Try.prog W .any base t v := hval0
  have hW' := hW
  obtain ⟨p, q, hA0, hV, rfl, hfz, hnd⟩ := hW
  have hA : DataW.TrodAll enc Try.prog W 0 (fun _ => true) true Try.f8.params.toList args.toList ds p := hA0
  rw [Try.params8] at hA hval
  obtain ⟨v0, vs0, d0, ds0, p0, q0, hargs, rfl, rfl, h0, r0⟩ := trodAll_cons hA
  obtain ⟨v1, vs1, d1, ds1, p1, q1, rfl, rfl, rfl, h1, r1⟩ := trodAll_cons r0
  obtain ⟨rfl, rfl, rfl⟩ := trodAll_nil r1
  obtain rfl : args = #[v0, v1] := by cases args; simp_all
  obtain ⟨rfl, rfl⟩ := trodVars_none hV
  obtain ⟨a0, rfl, rfl, rfl, w0⟩ := open_string Try.underlying9 (hval 0 9 v0 rfl rfl) h0
  obtain ⟨a1, len1, cap1, rfl⟩ := okWide_slice Try.underlying22 (hval 1 22 v1 rfl rfl)
  have k1 := h1
  have lt1 : ∀ x ∈ p1, x.block < W.heap.size := by obtain ⟨m, hm⟩ := k1; exact DataW.trod_lt m _ _ _ hm
  obtain ⟨z1, w1⟩ : ∃ zs, IsRow .u8 W a1 len1 cap1 zs := by
    obtain ⟨fuel, hf⟩ := h1
    rcases open_ints Try.underlying22 Try.underlying5 (by kernel_rfl) hf with ⟨hcs, _⟩ | ⟨x, l, c, zs, hcs, _, hl, hm, hz, _, hcell, hwz⟩
    · simp [Value.cells] at hcs
      obtain ⟨rfl, rfl, rfl⟩ := hcs
      exact ⟨[], .inl ⟨rfl, rfl, rfl, rfl⟩⟩
    · simp [Value.cells] at hcs
      obtain ⟨rfl, rfl, rfl⟩ := hcs
      exact ⟨zs, .inr ⟨_, rfl, hl, hm, by simpa using hz, hcell, hwz⟩⟩
  clear hA0 hval0
  refine (walk a0 a1 len1 cap1 z1 W w0 w1).mono fun e W' ⟨he, bel⟩ => ?_
  subst he
  exact ⟨_, rfl, _, _, _, [], _, [], hW', trodAll_mk1 (shut_bool Try.underlying4 _), (trodAll_cons_mk (shut_string Try.underlying9 w0) (trodAll_cons_mk (Below.trod laidOut (by kernel_rfl) (of_decide_eq_true (by kernel_rfl)) k1 bel lt1) trodAll_mk0)), rfl, bel.frame _, fun h => by cases h⟩

theorem over : Rows.fnNulStringRoundTripRow.holds Try.pinned (OpenSpec.ofChange Rows.fnNulStringRoundTripSpec) :=
  OpenClaim.holds_of_wide 8 Try.f8 rfl rfl rfl rfl rfl rfl rfl ⟨rfl, rfl, rfl, rfl, rfl⟩ rfl rfl rfl rfl rfl (by kernel_rfl) Try.func8 (by kernel_rfl)
    (of_decide_eq_true (by kernel_rfl)) (by unfold Func.isWrapper; first | (rw [if_pos (by decide +kernel)]; kernel_rfl) | (rw [if_neg (by decide +kernel)]; exact ⟨rfl, rfl⟩))
    (fun os started H enc _ => lifted os started H enc)

/-- ████ THE STATEMENT ████ -/
theorem proved : Rows.FnNulStringRoundTripSaid := over
end Go.Proofs.Qxb6001749a.fnNulStringRoundTrip
