/-
  'Rows.FnLenEncIntRoundTripSaid', PROVED. The frame is the seed's shell (proof-skeleton.mjs); the walk is out of the contracts of WalkA to WalkK.
-/
import Derived.Test.Qxb6001749aRows
import Derived.Test.Qxb6001749aWalkK
import Derived.WalkKit
import Derived.ProofKit
import Derived.OpenShut
import Derived.ShutString
import Derived.ChangeOld
import Derived.Below
namespace Go.Proofs.Qxb6001749a.fnLenEncIntRoundTrip
open Go.ChangeShapes Go.WideShapes Go.ChangeAt Go.RowKit
open Go.ChangeMaps (open_string shut_string)
set_option linter.unusedVariables false

theorem own : ownKnob Try.prog.godebug = none := by kernel_rfl
theorem laidOut : laidOutB Try.prog = true := by kernel_rfl

set_option maxHeartbeats 800000 in
theorem core {w : World} {ao bo : Option Addr} {n c m d : Nat} {pl tl : List Int} (x : Int) (hp : Arg w ao n pl) (ht : Arg w bo m tl) (hn : n ≤ 524288) (hm : m ≤ 524288) (h0 : 0 ≤ x) (h1 : x < 18446744073709551616) (hby : ∀ x ∈ tl, 0 ≤ x ∧ x ≤ 255) :
    Calls Try.prog 3 #[.slice ao n c, .int .u64 x, .slice bo m d] w fun e w' => e = .returned (.bool true) ∧ Below w.heap.size w w' := by
  obtain ⟨i0, hi, hz0, hz1, hz2⟩ := info_parts Try.info5
  obtain ⟨nx, hnx⟩ : ∃ nx, Hid ((enc x).length = nx) := ⟨_, rfl⟩
  have hpl := hid hp.1
  have htl := hid ht.1
  have hx1 : 1 ≤ nx := by rw [← hnx.out]; exact (enc_pos x).1
  have hx9 : nx ≤ 9 := by rw [← hnx.out]; exact (enc_pos x).2
  go_enter Try.func3, Try.ntmps3
  go_wp2_with fail
  refine (bytes11_yes ao bo n c m d x w (by omega)).mono ?_
  rintro e w0 ⟨rfl, rfl⟩
  go_wp2_with fail
  refine (clone_stands hp (by omega)).mono ?_
  rintro e w1 ⟨a1, c1, rfl, g1, hP, hnil1⟩
  have B1 := bel_start g1
  have ht1 := ht.kept g1
  clear hp ht g1
  go_wp2_with fail
  refine (clone_stands ht1 (by omega)).mono ?_
  rintro e w2 ⟨a2, c2, rfl, g2, hT, hnil2⟩
  have B2 := bel_none B1 g2
  have M2 := bel_start g2
  clear ht1 g2 B1
  obtain ⟨bp, vp⟩ := hP.out _ M2
  go_wp2_with fail
  refine (clone_any (vp.toArg hpl.out) (by omega)).mono ?_
  rintro e w3 ⟨a3, c3, rfl, hown3, g3⟩
  have N3 := bel_start g3
  clear g3 vp
  go_wp2_with fail
  refine (zzappend_row x hnx hown3 N3.size (by omega) h0 h1).mono ?_
  rintro e w4 ⟨g, c4, rfl, v4, hc4, hc4m, hgb, hgl, hsz4, hbel⟩
  have N4 := hbel w2 (Nat.le_refl _) N3
  clear hbel hown3 N3
  obtain ⟨bp4, vp4⟩ := hP.out _ (M2.trans (N4.mono M2.size))
  have hck : ¬ c4 = n := by omega
  have hnc4 : (n : Int) ≤ c4 := by omega
  go_wp2_with fail
  refine (equal_any (v4.front n) vp4 ?q1 hpl.out).mono ?_
  case q1 => rw [List.length_take, List.length_append, hpl.out]; omega
  rintro e w5 ⟨rfl, q, hw5⟩
  have e5 : decide ((pl ++ enc x).take n = pl) = true := decide_eq_true (by rw [← hpl.out, List.take_left])
  rw [e5]
  have N5 : Below w2.heap.size w2 w5 := by rw [hw5]; exact below_drewN N4 q
  have v5 : View w5 g (some ⟨g, n, none⟩) (c4 - n) (enc x) := by
    have hb5 := v4.back n (by rw [List.length_append, hpl.out]; omega)
    rw [if_neg hck, Nat.zero_add, ← hpl.out, List.drop_left, hpl.out] at hb5
    rw [hw5]
    exact hb5
  clear hw5 e5 vp4 v4 hP N4 M2
  go_wp2_with fail
  refine (clone_stands (v5.toArg hnx.out) (by omega)).mono ?_
  rintro e w6 ⟨a6, c6, rfl, g6, hC, hnil6⟩
  have N6 := N5.trans ((bel_start g6).mono N5.size)
  clear v5 g6 N5 hck hnc4 hc4 hc4m hgb hgl hsz4
  go_wp2_with (at_make; refine wpList_make_own _ rfl _ _ 22 rfl w6.heap.size 5 i0 (.int .u8 0) 1 Try.underlying22 hi hz0 hz1 _ _ _ (nx + m) rfl rfl (by omega) ?b2 ?b3 (Nat.le_refl _) ?_)
  case b2 => rw [hz2]; omega
  case b3 => unfold maxLen; omega
  intro w7 hown7 hgrow7
  have M7 := bel_start hgrow7
  clear hgrow7
  obtain ⟨b7, v7⟩ := hC.out _ M7
  go_wp2_with (at_builtin; refine wpList_append_fits_any _ rfl (.tmp 54) (.tmp 55) 22 rfl w6.heap.size 5 i0 1 Try.underlying22 hi hz1 w6.heap.size 0 (nx + m) _ rfl hown7 a6 nx c6 (cellsOf (enc x)) rfl ?f1 hnil6 v7.cellsAt ?f2 ?f3 ?_)
  case f1 => rw [cellsOf_length, hnx.out, Nat.mul_one]
  case f2 => exact ints_oneCell .u8 (enc x)
  case f3 => omega
  intro w8 hown8 hgrow8
  have M8 := M7.grown hgrow8 M7.size (fun t ht => by cases ht; exact Nat.le_refl _)
  clear hgrow8 hown7 M7 v7 hC hnil6
  obtain ⟨b8, v8⟩ := hT.out _ (N6.trans (M8.mono N6.size))
  go_wp2_with (at_builtin; refine wpList_append_fits_any _ rfl (.tmp 57) (.tmp 58) 22 rfl w6.heap.size 5 i0 1 Try.underlying22 hi hz1 w6.heap.size nx (nx + m) _ rfl hown8 a2 m c2 (cellsOf tl) rfl ?g1 hnil2 v8.cellsAt ?g2 ?g3 ?_)
  case g1 => rw [cellsOf_length, htl.out, Nat.mul_one]
  case g2 => exact ints_oneCell .u8 tl
  case g3 => omega
  intro w9 hown9 hgrow9
  rw [cellsOf_append] at hown9
  have M9 := M8.grown hgrow9 M8.size (fun t ht => by cases ht; exact Nat.le_refl _)
  clear hgrow9 hown8 M8 v8 hnil2
  obtain ⟨hl9, v9, hG9⟩ := View.of_row hown9
  have HL9 := hid hl9.symm
  clear hown9 hl9
  go_wp2_with fail
  refine (reader_view v9 (by omega)).mono ?_
  rintro e w10 ⟨R, rfl, r10, v10, hbR, hR, g10⟩
  have M10 := bel_none M9 g10
  have hR' : w6.heap.size ≤ R := Nat.le_trans M9.size hR
  have hN := hid (enc_need x h0 tl)
  have hV := hid (enc_val x h0 h1 tl)
  clear v9 g10 M9
  go_wp2_with fail
  refine (zzlenEnc_ok r10 v10 HL9.out hbR ?n1 ?n2).mono ?_
  case n1 => rw [hN.out, hnx.out]; omega
  case n2 =>
    intro y hy
    rcases List.mem_append.1 hy with h | h
    · exact enc_byte x h0 h1 y h
    · exact hby y h
  rintro e w11 ⟨rfl, a11, r11, v11, g11⟩
  have M11 := bel_some M10 g11 hR'
  rw [hV.out]
  rw [hN.out, hnx.out, Nat.add_sub_cancel_left] at r11
  rw [hN.out, List.drop_left, hnx.out, Nat.add_sub_cancel_left] at v11
  clear r10 v10 g11 M10
  obtain ⟨bt, vt⟩ := hT.out _ (N6.trans (M11.mono N6.size))
  go_wp2_with fail
  refine (bad_any r11).mono ?_
  rintro e w12 ⟨rfl, rfl⟩
  go_wp2_with fail
  refine (rest_any r11).mono ?_
  rintro e w13 ⟨rfl, rfl⟩
  go_wp2_with fail
  refine (equal_any v11 vt htl.out htl.out).mono ?_
  rintro e w14 ⟨rfl, q, rfl⟩
  rw [decide_eq_true rfl]
  go_wp2
  go_ret
  exact ⟨rfl, below_drewN (B2.trans ((N6.trans (M11.mono N6.size)).mono B2.size)) q⟩

theorem wide {w : World} {ao bo : Option Addr} {n c m d : Nat} (x : Int) (hn : n ≤ 9223372036854775807) (hm : m ≤ 9223372036854775807) (h : 1048576 < n + m) :
    Calls Try.prog 3 #[.slice ao n c, .int .u64 x, .slice bo m d] w fun e w' => e = .returned (.bool true) ∧ Below w.heap.size w w' := by
  go_enter Try.func3, Try.ntmps3
  go_wp2_with fail
  refine (bytes11_no ao bo n c m d x w h hn hm).mono ?_
  rintro e w0 ⟨rfl, rfl⟩
  go_wp2
  go_ret
  exact ⟨rfl, Below.refl _ _⟩

theorem long_p {w : World} {ao bo : Option Addr} {n c m d : Nat} (x : Int) (h : n + m ≤ 1048576) (hn : 524288 < n) :
    Calls Try.prog 3 #[.slice ao n c, .int .u64 x, .slice bo m d] w fun e w' => e = .returned (.bool true) ∧ Below w.heap.size w w' := by
  go_enter Try.func3, Try.ntmps3
  go_wp2_with fail
  refine (bytes11_yes ao bo n c m d x w h).mono ?_
  rintro e w0 ⟨rfl, rfl⟩
  go_wp2
  go_ret
  exact ⟨rfl, Below.refl _ _⟩

theorem long_t {w : World} {ao bo : Option Addr} {n c m d : Nat} (x : Int) (h : n + m ≤ 1048576) (hn : n ≤ 524288) (hm : 524288 < m) :
    Calls Try.prog 3 #[.slice ao n c, .int .u64 x, .slice bo m d] w fun e w' => e = .returned (.bool true) ∧ Below w.heap.size w w' := by
  go_enter Try.func3, Try.ntmps3
  go_wp2_with fail
  refine (bytes11_yes ao bo n c m d x w h).mono ?_
  rintro e w0 ⟨rfl, rfl⟩
  go_wp2
  go_ret
  exact ⟨rfl, Below.refl _ _⟩

theorem walk (a0 : Option Addr) (len0 cap0 : Nat) (z0 : List Int) (a1 : Int) (a2 : Option Addr) (len2 cap2 : Nat) (z2 : List Int) (w : World) (w0 : IsRow .u8 w a0 len0 cap0 z0) (w1 : (Lit.int .u64 a1).wf = true) (w2 : IsRow .u8 w a2 len2 cap2 z2) :
    Calls Try.prog 3 #[.slice a0 len0 cap0, .int .u64 a1, .slice a2 len2 cap2] w fun e w' => e = .returned (.bool true) ∧ Below w.heap.size w w' := by
  obtain ⟨hp, _, hl0⟩ := w0.arg
  obtain ⟨ht, hby, hl2⟩ := w2.arg
  have bx := bounds_u64 w1
  by_cases h : 1048576 < len0 + len2
  · exact wide a1 hl0 hl2 h
  · by_cases h1 : 524288 < len0
    · exact long_p a1 (by omega) h1
    · by_cases h2 : 524288 < len2
      · exact long_t a1 (by omega) (by omega) h2
      · exact core a1 hp ht (by omega) (by omega) (by omega) (by omega) hby

/-! ### THE ROW's STEP: WRITTEN OUT: LEAVE IT -/
set_option maxRecDepth 100000 in
theorem lifted (os : Os) (started : os.Started) (H : Type) (enc : TypeId × Value → H) :
    ReturnsInHanded {} Try.checked os 3 .any (Rows.fnLenEncIntRoundTripSpec.pre6 enc Try.prog Try.f3 Rows.fnLenEncIntRoundTripRow.domain false) (Rows.fnLenEncIntRoundTripSpec.post enc Try.prog Try.f3 false true false false) := by
  refine returnsInHanded_of_change (C := Try.checked) own started (by kernel_rfl) Try.func3
    (ChangeSpec.witness6 (enc := enc) (C := Try.checked) false ⟨#[], #[.slice none 0 0, .int .u64 0, .slice none 0 0], []⟩ 8 (by kernel_rfl) (by kernel_rfl) (by kernel_rfl) (by kernel_rfl)) ?_
  intro W base args ds gs before hval0 hW hcnd _
  have hval : ∀ (j : Nat) t v, Try.f3.params[j]? = some t → args[j]? = some v → Value.okWide Try.prog W .any base t v := hval0
  have hW' := hW
  obtain ⟨p, q, hA0, hV, rfl, hfz, hnd⟩ := hW
  have hA : DataW.TrodAll enc Try.prog W 0 (fun _ => true) true Try.f3.params.toList args.toList ds p := hA0
  rw [Try.params3] at hA hval
  obtain ⟨v0, vs0, d0, ds0, p0, q0, hargs, rfl, rfl, h0, r0⟩ := trodAll_cons hA
  obtain ⟨v1, vs1, d1, ds1, p1, q1, rfl, rfl, rfl, h1, r1⟩ := trodAll_cons r0
  obtain ⟨v2, vs2, d2, ds2, p2, q2, rfl, rfl, rfl, h2, r2⟩ := trodAll_cons r1
  obtain ⟨rfl, rfl, rfl⟩ := trodAll_nil r2
  obtain rfl : args = #[v0, v1, v2] := by cases args; simp_all
  obtain ⟨rfl, rfl⟩ := trodVars_none hV
  obtain ⟨a0, len0, cap0, rfl⟩ := okWide_slice Try.underlying22 (hval 0 22 v0 rfl rfl)
  have k0 := h0
  have lt0 : ∀ x ∈ p0, x.block < W.heap.size := by obtain ⟨m, hm⟩ := k0; exact DataW.trod_lt m _ _ _ hm
  obtain ⟨z0, w0⟩ : ∃ zs, IsRow .u8 W a0 len0 cap0 zs := by
    obtain ⟨fuel, hf⟩ := h0
    rcases open_ints Try.underlying22 Try.underlying5 (by kernel_rfl) hf with ⟨hcs, _⟩ | ⟨x, l, c, zs, hcs, _, hl, hm, hz, _, hcell, hwz⟩
    · simp [Value.cells] at hcs
      obtain ⟨rfl, rfl, rfl⟩ := hcs
      exact ⟨[], .inl ⟨rfl, rfl, rfl, rfl⟩⟩
    · simp [Value.cells] at hcs
      obtain ⟨rfl, rfl, rfl⟩ := hcs
      exact ⟨zs, .inr ⟨_, rfl, hl, hm, by simpa using hz, hcell, hwz⟩⟩
  obtain ⟨a1, rfl, rfl, rfl, w1⟩ := open_int Try.underlying23 (hval 1 23 v1 rfl rfl) h1
  obtain ⟨a2, len2, cap2, rfl⟩ := okWide_slice Try.underlying22 (hval 2 22 v2 rfl rfl)
  have k2 := h2
  have lt2 : ∀ x ∈ p2, x.block < W.heap.size := by obtain ⟨m, hm⟩ := k2; exact DataW.trod_lt m _ _ _ hm
  obtain ⟨z2, w2⟩ : ∃ zs, IsRow .u8 W a2 len2 cap2 zs := by
    obtain ⟨fuel, hf⟩ := h2
    rcases open_ints Try.underlying22 Try.underlying5 (by kernel_rfl) hf with ⟨hcs, _⟩ | ⟨x, l, c, zs, hcs, _, hl, hm, hz, _, hcell, hwz⟩
    · simp [Value.cells] at hcs
      obtain ⟨rfl, rfl, rfl⟩ := hcs
      exact ⟨[], .inl ⟨rfl, rfl, rfl, rfl⟩⟩
    · simp [Value.cells] at hcs
      obtain ⟨rfl, rfl, rfl⟩ := hcs
      exact ⟨zs, .inr ⟨_, rfl, hl, hm, by simpa using hz, hcell, hwz⟩⟩
  clear hA0 hval0
  refine (walk a0 len0 cap0 z0 a1 a2 len2 cap2 z2 W w0 w1 w2).mono fun e W' ⟨he, bel⟩ => ?_
  subst he
  exact ⟨_, rfl, _, _, _, [], _, [], hW', trodAll_mk1 (shut_bool Try.underlying4 _), (trodAll_cons_mk (Below.trod laidOut (by kernel_rfl) (of_decide_eq_true (by kernel_rfl)) k0 bel lt0) (trodAll_cons_mk (shut_int Try.underlying23 w1) (trodAll_cons_mk (Below.trod laidOut (by kernel_rfl) (of_decide_eq_true (by kernel_rfl)) k2 bel lt2) trodAll_mk0))), rfl, bel.frame _, fun h => by cases h⟩

theorem over : Rows.fnLenEncIntRoundTripRow.holds Try.pinned (OpenSpec.ofChange Rows.fnLenEncIntRoundTripSpec) :=
  OpenClaim.holds_of_wide 3 Try.f3 rfl rfl rfl rfl rfl rfl rfl ⟨rfl, rfl, rfl, rfl, rfl⟩ rfl rfl rfl rfl rfl (by kernel_rfl) Try.func3 (by kernel_rfl)
    (of_decide_eq_true (by kernel_rfl)) (by unfold Func.isWrapper; first | (rw [if_pos (by decide +kernel)]; kernel_rfl) | (rw [if_neg (by decide +kernel)]; exact ⟨rfl, rfl⟩))
    (fun os started H enc _ => lifted os started H enc)

/-- ████ THE STATEMENT ████ -/
theorem proved : Rows.FnLenEncIntRoundTripSaid := over
end Go.Proofs.Qxb6001749a.fnLenEncIntRoundTrip
