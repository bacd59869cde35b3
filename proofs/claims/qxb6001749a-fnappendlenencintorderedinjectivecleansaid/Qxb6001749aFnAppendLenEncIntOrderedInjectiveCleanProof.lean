/-
  'Rows.FnAppendLenEncIntOrderedInjectiveCleanSaid', PROVED. The frame is the seed's shell (proof-skeleton.mjs), its last row turned to 'Below'; the walk is out of the contracts of WalkA to WalkE.
-/
import Derived.Test.Qxb6001749aRows
import Derived.Test.Qxb6001749aWalkE
import Derived.WalkKit
import Derived.ProofKit
import Derived.OpenShut
import Derived.ShutString
import Derived.ChangeOld
import Derived.Below
namespace Go.Proofs.Qxb6001749a.fnAppendLenEncIntOrderedInjectiveClean
open Go.ChangeShapes Go.WideShapes Go.ChangeAt Go.RowKit
open Go.ChangeMaps (open_string shut_string)
set_option linter.unusedVariables false      -- a walk need not use every 'w<i>' (that an integer argument fits its kind)

theorem own : ownKnob Try.prog.godebug = none := by kernel_rfl

theorem bel_two {w w1 w2 : World} (g1 : w.grownBy w1 none) (g2 : w1.grownBy w2 none) : Below w.heap.size w w2 :=
  ((Below.refl _ _).grown g1 (Nat.le_refl _) (fun k h => by cases h)).grown g2 g1.size (fun k h => by cases h)

theorem walk4_lt (x y : Int) (w : World) (h0 : 0 ≤ x) (h1 : x < y) (h2 : y < 18446744073709551616) :
    Calls Try.prog 4 #[.int .u64 x, .int .u64 y] w fun e w' => e = .returned (.bool true) ∧ Below w.heap.size w w' := by
  obtain ⟨nx, hnx⟩ : ∃ nx, Hid ((enc x).length = nx) := ⟨_, rfl⟩
  obtain ⟨ny, hny⟩ : ∃ ny, Hid ((enc y).length = ny) := ⟨_, rfl⟩
  have hle : nx ≤ ny := by rw [← hnx.out, ← hny.out]; exact enc_mono x y (by omega)
  have hne : decide (enc x = enc y) = false := decide_eq_false fun e => by have := enc_inj x y h0 (by omega) (by omega) h2 e; omega
  have hxy : (x == y) = false := by simp; omega
  have hxy' : ¬ y < x := by omega
  go_enter Try.func4, Try.ntmps4
  go_wp2_with fail
  refine (zzappend_nil x nx hnx h0 (by omega)).mono ?_
  rintro e w1 ⟨b1, c1, rfl, v1, hb1, hb1', g1⟩
  go_wp2_with fail
  refine (zzappend_nil y ny hny (by omega) (by omega)).mono ?_
  rintro e w2 ⟨b2, c2, rfl, v2, hb2, hb2', g2⟩
  have v1' := v1.kept g2 (by simp)
  go_wp2_with fail
  refine (legal_enc x hnx h0 v1').mono ?_
  rintro e w3 ⟨rfl, rfl⟩
  go_wp2_with fail
  refine (legal_enc y hny (by omega) v2).mono ?_
  rintro e w4 ⟨rfl, rfl⟩
  go_wp2_with fail
  refine (equal_any v1' v2 hnx.out hny.out).mono ?_
  rintro e w5 ⟨rfl, q, rfl⟩
  rw [hne]
  have hB := below_drewN (bel_two g1 g2) q
  obtain ⟨off, ho, hc⟩ := v1'.first (enc_pos x).1
  simp at ho
  subst ho
  clear v1 v1' v2 hne g1 g2
  rcases enc_head x h0 with ⟨hl, _, _, hh⟩ | ⟨_, _, _, hx⟩
  · rw [hnx.out] at hl
    rw [hh] at hc
    have hn1 : (nx : Int) = 1 := by omega
    have hs : x < 251 := by omega
    clear hl hh
    go_wp2
    go_ret
    exact ⟨rfl, hB⟩
  · go_wp2
    go_ret
    exact ⟨rfl, hB⟩

theorem walk4_gt (x y : Int) (w : World) (h0 : 0 ≤ x) (h1 : x < y) (h2 : y < 18446744073709551616) :
    Calls Try.prog 4 #[.int .u64 y, .int .u64 x] w fun e w' => e = .returned (.bool true) ∧ Below w.heap.size w w' := by
  obtain ⟨nx, hnx⟩ : ∃ nx, Hid ((enc x).length = nx) := ⟨_, rfl⟩
  obtain ⟨ny, hny⟩ : ∃ ny, Hid ((enc y).length = ny) := ⟨_, rfl⟩
  have hle : nx ≤ ny := by rw [← hnx.out, ← hny.out]; exact enc_mono x y (by omega)
  have hne : decide (enc x = enc y) = false := decide_eq_false fun e => by have := enc_inj x y h0 (by omega) (by omega) h2 e; omega
  have hxy : (x == y) = false := by simp; omega
  have hxy' : ¬ y < x := by omega
  go_enter Try.func4, Try.ntmps4
  go_wp2_with fail
  refine (zzappend_nil x nx hnx h0 (by omega)).mono ?_
  rintro e w1 ⟨b1, c1, rfl, v1, hb1, hb1', g1⟩
  go_wp2_with fail
  refine (zzappend_nil y ny hny (by omega) (by omega)).mono ?_
  rintro e w2 ⟨b2, c2, rfl, v2, hb2, hb2', g2⟩
  have v1' := v1.kept g2 (by simp)
  go_wp2_with fail
  refine (legal_enc x hnx h0 v1').mono ?_
  rintro e w3 ⟨rfl, rfl⟩
  go_wp2_with fail
  refine (legal_enc y hny (by omega) v2).mono ?_
  rintro e w4 ⟨rfl, rfl⟩
  go_wp2_with fail
  refine (equal_any v1' v2 hnx.out hny.out).mono ?_
  rintro e w5 ⟨rfl, q, rfl⟩
  rw [hne]
  have hB := below_drewN (bel_two g1 g2) q
  obtain ⟨off, ho, hc⟩ := v1'.first (enc_pos x).1
  simp at ho
  subst ho
  clear v1 v1' v2 hne g1 g2
  rcases enc_head x h0 with ⟨hl, _, _, hh⟩ | ⟨_, _, _, hx⟩
  · rw [hnx.out] at hl
    rw [hh] at hc
    have hn1 : (nx : Int) = 1 := by omega
    have hs : x < 251 := by omega
    clear hl hh
    go_wp2
    go_ret
    exact ⟨rfl, hB⟩
  · go_wp2
    go_ret
    exact ⟨rfl, hB⟩

theorem walk4_eq (x : Int) (w : World) (h0 : 0 ≤ x) (h2 : x < 18446744073709551616) :
    Calls Try.prog 4 #[.int .u64 x, .int .u64 x] w fun e w' => e = .returned (.bool true) ∧ Below w.heap.size w w' := by
  obtain ⟨nx, hnx⟩ : ∃ nx, Hid ((enc x).length = nx) := ⟨_, rfl⟩
  go_enter Try.func4, Try.ntmps4
  go_wp2_with fail
  refine (zzappend_nil x nx hnx h0 (by omega)).mono ?_
  rintro e w1 ⟨b1, c1, rfl, v1, hb1, hb1', g1⟩
  go_wp2_with fail
  refine (zzappend_nil x nx hnx (by omega) (by omega)).mono ?_
  rintro e w2 ⟨b2, c2, rfl, v2, hb2, hb2', g2⟩
  have v1' := v1.kept g2 (by simp)
  go_wp2_with fail
  refine (legal_enc x hnx h0 v1').mono ?_
  rintro e w3 ⟨rfl, rfl⟩
  go_wp2_with fail
  refine (legal_enc x hnx (by omega) v2).mono ?_
  rintro e w4 ⟨rfl, rfl⟩
  have hB := bel_two g1 g2
  obtain ⟨off, ho, hc⟩ := v1'.first (enc_pos x).1
  simp at ho
  subst ho
  clear v1 v1' v2 g1 g2
  rcases enc_head x h0 with ⟨hl, _, _, hh⟩ | ⟨_, _, _, hx⟩
  · rw [hnx.out] at hl
    rw [hh] at hc
    have hn1 : (nx : Int) = 1 := by omega
    have hs : x < 251 := by omega
    clear hl hh
    go_wp2
    go_ret
    exact ⟨rfl, hB⟩
  · go_wp2
    go_ret
    exact ⟨rfl, hB⟩

theorem u64_bounds {n : Int} (h : (Lit.int .u64 n).wf = true) : 0 ≤ n ∧ n < 18446744073709551616 := by
  have := bounds_u64 h
  omega

theorem walk (a0 : Int) (a1 : Int) (w0 : (Lit.int .u64 a0).wf = true) (w1 : (Lit.int .u64 a1).wf = true) (w : World) :
    Calls Try.prog 4 #[.int .u64 a0, .int .u64 a1] w fun e w' => e = .returned (.bool true) ∧ Below w.heap.size w w' := by
  have b0 := u64_bounds w0
  have b1 := u64_bounds w1
  by_cases h : a0 = a1
  · subst h
    exact walk4_eq a0 w b0.1 b0.2
  · by_cases h' : a0 < a1
    · exact walk4_lt a0 a1 w b0.1 h' b1.2
    · exact walk4_gt a1 a0 w b1.1 (by omega) b0.2

/-! ### THE ROW's STEP: WRITTEN OUT: LEAVE IT -/
set_option maxRecDepth 100000 in
theorem lifted (os : Os) (started : os.Started) (H : Type) (enc : TypeId × Value → H) :
    ReturnsInHanded {} Try.checked os 4 .any (Rows.fnAppendLenEncIntOrderedInjectiveCleanSpec.pre6 enc Try.prog Try.f4 Rows.fnAppendLenEncIntOrderedInjectiveCleanRow.domain false) (Rows.fnAppendLenEncIntOrderedInjectiveCleanSpec.post enc Try.prog Try.f4 false true false false) := by
  refine returnsInHanded_of_change (C := Try.checked) own started (by kernel_rfl) Try.func4
    (ChangeSpec.witness6 (enc := enc) (C := Try.checked) false ⟨#[], #[.int .u64 0, .int .u64 0], []⟩ 8 (by kernel_rfl) (by kernel_rfl) (by kernel_rfl) (by kernel_rfl)) ?_
  intro W base args ds gs before hval0 hW hcnd _
  have hval : ∀ (j : Nat) t v, Try.f4.params[j]? = some t → args[j]? = some v → Value.okWide Try.prog W .any base t v := hval0
  have hW' := hW
  obtain ⟨p, q, hA0, hV, rfl, hfz, hnd⟩ := hW
  have hA : DataW.TrodAll enc Try.prog W 0 (fun _ => true) true Try.f4.params.toList args.toList ds p := hA0
  rw [Try.params4] at hA hval
  obtain ⟨v0, vs0, d0, ds0, p0, q0, hargs, rfl, rfl, h0, r0⟩ := trodAll_cons hA
  obtain ⟨v1, vs1, d1, ds1, p1, q1, rfl, rfl, rfl, h1, r1⟩ := trodAll_cons r0
  obtain ⟨rfl, rfl, rfl⟩ := trodAll_nil r1
  obtain rfl : args = #[v0, v1] := by cases args; simp_all
  obtain ⟨rfl, rfl⟩ := trodVars_none hV
  obtain ⟨a0, rfl, rfl, rfl, w0⟩ := open_int Try.underlying23 (hval 0 23 v0 rfl rfl) h0
  obtain ⟨a1, rfl, rfl, rfl, w1⟩ := open_int Try.underlying23 (hval 1 23 v1 rfl rfl) h1
  clear hA0 hval0
  simp only [List.append_nil] at hW'
  refine (walk a0 a1 w0 w1 W).mono fun e W' ⟨he, hg⟩ => ?_
  subst he
  exact ⟨_, rfl, _, _, _, [], [], [], hW', trodAll_mk1 (shut_bool Try.underlying4 _), (trodAll_cons_mk (shut_int Try.underlying23 w0) (trodAll_cons_mk (shut_int Try.underlying23 w1) trodAll_mk0)), rfl, hg.frame _, fun h => by cases h⟩

theorem over : Rows.fnAppendLenEncIntOrderedInjectiveCleanRow.holds Try.pinned (OpenSpec.ofChange Rows.fnAppendLenEncIntOrderedInjectiveCleanSpec) :=
  OpenClaim.holds_of_wide 4 Try.f4 rfl rfl rfl rfl rfl rfl rfl ⟨rfl, rfl, rfl, rfl, rfl⟩ rfl rfl rfl rfl rfl (by kernel_rfl) Try.func4 (by kernel_rfl)
    (of_decide_eq_true (by kernel_rfl)) (by unfold Func.isWrapper; first | (rw [if_pos (by decide +kernel)]; kernel_rfl) | (rw [if_neg (by decide +kernel)]; exact ⟨rfl, rfl⟩))
    (fun os started H enc _ => lifted os started H enc)

/-- ████ THE STATEMENT ████ -/
theorem proved : Rows.FnAppendLenEncIntOrderedInjectiveCleanSaid :=
  over
end Go.Proofs.Qxb6001749a.fnAppendLenEncIntOrderedInjectiveClean
