/-
  'Rows.FnLowestMatchesScaleWalkSaid', PROVED. The frame is the kit's own way (proof-skeleton.mjs, at slices of strings: 'open_strings'); the walk is out of the contracts of WalkA to WalkF and the plain law of Plain.
-/
import Derived.Test.Qxb6000665aRows
import Derived.Test.Qxb6000665aWalkF
import Derived.WalkKit
import Derived.ProofKit
import Derived.OpenShut
import Derived.ShutString
import Derived.SliceStrings
import Derived.ChangeOld
import Derived.Below
namespace Go.Proofs.Qxb6000665a.fnLowestMatchesScaleWalk
open Go.ChangeShapes Go.WideShapes Go.ChangeAt Go.RowKit
set_option linter.unusedVariables false

theorem own : ownKnob Try.prog.godebug = none := by kernel_rfl
theorem laidOut : laidOutB Try.prog = true := by kernel_rfl

/-- What holds at the head of each round of the walk down the scale: no place above J strikes. -/
def Dn (w6 wr : World) (sc ag gr ex : List ByteArray) (E n n0 : Nat) (J : Int) : Prop :=
  -1 ≤ J ∧ J < n0 ∧ (∀ i : Nat, J < (i : Int) → i < n0 → ¬ Hit sc ag gr ex n i) ∧ Below w6.heap.size w6 wr ∧ Hid (∀ i, i < n → wr.cell? ⟨E, i, none⟩ = some (.bool (eB ag ex i)))

/-- .. and of the search among the ratings: none ahead of i carries the grade y. -/
def In (w6 wi : World) (ag gr ex : List ByteArray) (E n i : Nat) (y : ByteArray) : Prop :=
  i ≤ n ∧ (∀ t, t < i → Elig ag ex t → at_ gr t ≠ y) ∧ Below w6.heap.size w6 wi ∧ Hid (∀ i, i < n → wi.cell? ⟨E, i, none⟩ = some (.bool (eB ag ex i)))

set_option maxRecDepth 100000 in
set_option maxHeartbeats 1600000 in
theorem core {w : World} {a0 a1 a2 a3 : Option Addr} {n0 n1 n3 c0 c1 c2 c3 : Nat} {sc ag gr ex : List ByteArray} (h0 : SArg w a0 n0 sc) (h1 : SArg w a1 n1 ag) (h2 : SArg w a2 n1 gr) (h3 : SArg w a3 n3 ex)
    (m0 : n0 ≤ 4096) (m1 : n1 ≤ 4096) (m3 : n3 ≤ 4096) :
    Calls Try.prog 3 #[.slice a0 n0 c0, .slice a1 n1 c1, .slice a2 n1 c2, .slice a3 n3 c3] w fun e w' => e = .returned (.bool true) ∧ Below w.heap.size w w' := by
  have hs0 := hid h0.1
  have hs1 := hid h1.1
  have hs2 := hid h2.1
  have hs3 := hid h3.1
  have H0 := hid h0
  have H1 := hid h1
  have H2 := hid h2
  have H3 := hid h3
  clear h0 h1 h2 h3
  go_enter Try.func3, Try.ntmps3
  go_wp2_with fail
  refine (bytes_any H0 H1 H2 H3 (by omega) (by omega) (by omega) (by omega)).mono ?_
  rintro e w0 ⟨⟨r, rfl⟩, rfl⟩
  cases r with
  | false =>
    go_wp2
    go_ret
    exact ⟨rfl, Below.refl _ _⟩
  | true =>
    go_wp2_with fail
    refine (list_any H0 (by omega)).mono ?_
    rintro e w0 ⟨⟨u0, rfl⟩, rfl⟩
    go_wp2_with fail
    refine (list_any H1 (by omega)).mono ?_
    rintro e w0 ⟨⟨u1, rfl⟩, rfl⟩
    go_wp2_with fail
    refine (list_any H2 (by omega)).mono ?_
    rintro e w0 ⟨⟨u2, rfl⟩, rfl⟩
    go_wp2_with fail
    refine (list_any H3 (by omega)).mono ?_
    rintro e w0 ⟨⟨u3, rfl⟩, rfl⟩
    go_wp2_with fail
    · go_ret
      exact ⟨rfl, Below.refl _ _⟩
    generalize wrap64 (wrap64 (wrap64 (u0 + u1) + u2) + u3) = t3 at *
    generalize wrap64 (wrap64 (u0 + u1) + u2) = t2 at *
    generalize wrap64 (u0 + u1) = t1 at *
    refine (copy_any H0.out m0).mono ?_
    rintro e w1 ⟨s0, d0, rfl, g1, K0⟩
    have H1' := hid (H1.out.kept g1)
    have H2' := hid (H2.out.kept g1)
    have H3' := hid (H3.out.kept g1)
    clear H0 H1 H2 H3
    go_wp2_with fail
    refine (copy_any H1'.out m1).mono ?_
    rintro e w2 ⟨s1, d1, rfl, g2, K1⟩
    have H2 := hid (H2'.out.kept g2)
    have H3 := hid (H3'.out.kept g2)
    clear H1' H2' H3'
    go_wp2_with fail
    refine (copy_any H2.out m1).mono ?_
    rintro e w3 ⟨s2, d2, rfl, g3, K2⟩
    have H3' := hid (H3.out.kept g3)
    clear H2 H3
    go_wp2_with fail
    refine (copy_any H3'.out m3).mono ?_
    rintro e w4 ⟨s3, d3, rfl, g4, K3⟩
    clear H3'
    go_wp2_with fail
    refine (floor_any s0 n0 d0 _ w4).mono ?_
    rintro e w5 ⟨rfl, hw5⟩
    have g5 : w4.grownBy w5 none := by rw [hw5]; exact World.grownBy_alloc _ _ _
    have hF0 : w5.cell? ⟨w4.heap.size, 0, none⟩ = some (.slice s0 n0 d0) := by rw [hw5]; simp
    have hFl : w4.heap.size < w5.heap.size := by rw [hw5]; simp
    have K3' : Hid (∀ v, Below w5.heap.size w5 v → ∃ b, SView v b s3 d3 ex) := fun v hv => by
      have P := bel_start g5
      obtain ⟨b, h, _⟩ := K3.out v (P.trans (hv.mono P.size))
      exact ⟨b, h⟩
    clear hw5 K3
    generalize w4.heap.size = F at *
    obtain ⟨b1, v1, _⟩ := K1.out _ (bel_none (bel_none (bel_start g3) g4) g5)
    obtain ⟨b2, v2, _⟩ := K2.out _ (bel_none (bel_start g4) g5)
    go_wp2_with fail
    refine (make_any v1 v2 hs1.out hs2.out m1).mono ?_
    rintro e w6 ⟨G, rfl, g6, hG, hr⟩
    have hF6 := g6.cell hF0 (by simp)
    have hFl6 : F < w6.heap.size := Nat.lt_of_lt_of_le hFl g6.size
    have B6 : Below w0.heap.size w0 w6 := bel_none (bel_none (bel_none (bel_none (bel_none (bel_start g1) g2) g3) g4) g5) g6
    have S0 : Hid (∀ v, Below w6.heap.size w6 v → ∃ b, SView v b s0 d0 sc) := fun v hv => by
      have P := bel_none (bel_none (bel_none (bel_none (bel_start g2) g3) g4) g5) g6
      obtain ⟨b, h, _⟩ := K0.out v (P.trans (hv.mono P.size))
      exact ⟨b, h⟩
    have S1 : Hid (∀ v, Below w6.heap.size w6 v → ∃ b, SView v b s1 d1 ag) := fun v hv => by
      have P := bel_none (bel_none (bel_none (bel_start g3) g4) g5) g6
      obtain ⟨b, h, _⟩ := K1.out v (P.trans (hv.mono P.size))
      exact ⟨b, h⟩
    have S2 : Hid (∀ v, Below w6.heap.size w6 v → ∃ b, SView v b s2 d2 gr) := fun v hv => by
      have P := bel_none (bel_none (bel_start g4) g5) g6
      obtain ⟨b, h, _⟩ := K2.out v (P.trans (hv.mono P.size))
      exact ⟨b, h⟩
    have S3 : Hid (∀ v, Below w6.heap.size w6 v → ∃ b, SView v b s3 d3 ex) := fun v hv => by
      have P := bel_start g6
      exact K3'.out v (P.trans (hv.mono P.size))
    clear K0 K1 K2 K3' v1 v2 g1 g2 g3 g4 g5 g6 hF0 hFl
    go_wp2_with fail
    refine (lowest_any m1 m0 hFl6 hG hF6 hr S0 S3 hs0 hs3).mono ?_
    rintro e w7 ⟨g, P, rfl, hlow, L7⟩
    have HL := hid hlow
    have hmk := run_make_row' (P := Try.prog) 32 4 (.bool false) 1 Try.underlying32 Try.info4 rfl .i64 .i64 n1 (by omega) (by omega)
    rw [bfill_zero ag ex n1] at hmk
    clear hlow hr hF6 hFl6 hG
    go_wp2
    go_loopw [13] (fun i wr => ∃ k : Nat, k ≤ n1 ∧ i = .int .i64 k ∧ wr = w7.alloc (.cells (bfill ag ex n1 k) 4)) (fun i _ => n1 - (intOf i).toNat)
    case atStart => exact ⟨0, Nat.zero_le _, rfl, rfl⟩
    case round =>
      obtain ⟨k, hk, rfl, rfl⟩ := hrel
      have hA := L7.alloc L7.size (.cells (bfill ag ex n1 k) 4)
      by_cases hlt : k < n1
      · obtain ⟨b1, v1⟩ := S1.out _ hA
        obtain ⟨off1, rfl, hcap1, hcm1, hc1⟩ := v1.cells hs1.out (by omega)
        have gx := hc1 k hlt
        obtain ⟨bX, vX⟩ := S3.out _ hA
        have hbs := bfill_size ag ex n1 k
        have hst := hid (bfill_step ag ex n1 k hlt)
        rcases first_or ex (at_ ag k) with hel | ⟨p, hp⟩
        · rw [eB_true (fun i hi => hel i hi)] at hst
          have hcx := hid (has_no (s := at_ ag k) vX hs3.out (by rw [← hs3.out]; exact hel))
          clear v1 hc1 vX hel
          generalize at_ ag k = x at gx hcx
          go_wp2_with (go_at_call 14; refine Calls.mono hcx.out ?_; rintro e w' ⟨rfl, rfl⟩)
          go_roundw
          case rel => exact ⟨k + 1, by omega, by go_num, by rw [hst.out]⟩
          case measure => simp [intOf]; omega
        · rw [eB_false hp] at hst
          have hcx := hid (has_yes vX hs3.out hp)
          clear v1 hc1 vX hp
          generalize at_ ag k = x at gx hcx
          go_wp2_with (go_at_call 14; refine Calls.mono hcx.out ?_; rintro e w' ⟨rfl, rfl⟩)
          go_roundw
          case rel => exact ⟨k + 1, by omega, by go_num, by rw [hst.out]⟩
          case measure => simp [intOf]; omega
      · obtain rfl : k = n1 := by omega
        have hE : Hid (∀ i, i < k → (w7.alloc (.cells (bfill ag ex k k) 4)).cell? ⟨w7.heap.size, i, none⟩ = some (.bool (eB ag ex i))) := fun i hi => by
          rw [World.cell?_alloc_new, bfill_get ag ex k k i hi, if_pos hi]
        obtain ⟨w8, hw8⟩ : ∃ w8, w8 = w7.alloc (.cells (bfill ag ex k k) 4) := ⟨_, rfl⟩
        rw [← hw8] at hE hA ⊢
        clear hw8 hmk
        generalize w7.heap.size = E at *
        go_wp2
        go_loopw [14, 15, 16] (fun gv pv jv wr => ∃ J : Int, jv = .int .i64 J ∧ gv = .string ⟨#[]⟩ ∧ pv = .int .i64 n0 ∧ Dn w6 wr sc ag gr ex E k n0 J) (fun _ _ j _ => (intOf j + 1).toNat)
        case atStart => exact ⟨_, rfl, rfl, rfl, by omega, by omega, fun i hi hi' => by omega, hA, hE⟩
        case round =>
          obtain ⟨J, rfl, rfl, rfl, hJ1, hJ2, hmiss0, hA8, hE8⟩ := hrel
          have hmiss := hid hmiss0
          clear hmiss0 hA hE
          by_cases hneg : J < 0
          · -- the scale is walked through
            have hfin := HL.out.miss (fun i hi => hmiss.out i (by omega) (by rw [← hs0.out]; exact hi))
            rw [hs0.out] at hfin
            obtain ⟨rfl, rfl⟩ := hfin
            go_wp2
            go_ret
            exact ⟨rfl, B6.trans (hA8.mono B6.size)⟩
          · obtain ⟨j, rfl⟩ := Int.eq_ofNat_of_zero_le (show 0 ≤ J by omega)
            have hjn : j < n0 := by omega
            obtain ⟨b0, v0⟩ := S0.out _ hA8
            obtain ⟨off0, rfl, hcap0, hcm0, hc0⟩ := v0.cells hs0.out (by omega)
            have gj := hc0 j hjn
            have vt := v0.front j
            have hjc : (j : Int) ≤ d0 := by omega
            obtain ⟨y, hy⟩ : ∃ y, Hid (at_ sc j = y) := ⟨_, rfl⟩
            rw [hy.out] at gj
            have htl : (sc.take j).length = j := by rw [List.length_take, hs0.out]; omega
            rcases first_or (sc.take j) y with hno | ⟨p, hp⟩
            · -- in its first place
              have hcx := hid (fun m => has_no (s := y) (vt.drewN m) htl (fun i hi => hno i (by rw [htl]; exact hi)))
              have hfst : Hid (∀ i, i < j → at_ sc i ≠ at_ sc j) := fun i hi => by
                have := hno i (by rw [htl]; exact hi)
                rw [at_take sc j i hi] at this
                rw [hy.out]
                exact this
              clear vt htl hno v0 hc0 hJ1 hneg hJ2
              go_wp2
              go_quiet ((go_at_call 14; exact Calls.quiet_of_same (hcx.out _)))
              clear hcx gj hjc hcap0 hcm0
              go_wp2
              go_loopw [17, 18] (fun hv iv wi => ∃ i : Nat, iv = .int .i64 i ∧ hv = .bool false ∧ In w6 wi ag gr ex E k i y) (fun _ i _ => k - (intOf i).toNat)
              case atStart => exact ⟨0, rfl, rfl, Nat.zero_le _, fun t ht => by omega, below_drewN hA8 _, hE8⟩
              case round =>
                obtain ⟨i, rfl, rfl, hik, hfr0, hA9, hE9⟩ := hrel
                have hfr := hid hfr0
                clear hfr0 hA8 hE8
                by_cases hik' : i < k
                · obtain ⟨bg, vg⟩ := S2.out _ hA9
                  obtain ⟨off2, rfl, _, _, hc2⟩ := vg.cells hs2.out (by omega)
                  have gz := hc2 i hik'
                  obtain ⟨bs, vs⟩ := S0.out _ hA9
                  obtain ⟨offs, hes, _, _, hcs⟩ := vs.cells hs0.out (by omega)
                  have gy := hcs j hjn
                  simp only [Option.some.injEq, Addr.mk.injEq, and_true] at hes
                  obtain ⟨rfl, rfl⟩ := hes
                  rw [hy.out] at gy
                  have ge := hE9.out i hik'
                  obtain ⟨z, hz⟩ : ∃ z, Hid (at_ gr i = z) := ⟨_, rfl⟩
                  rw [hz.out] at gz
                  clear vg hc2 vs hcs
                  cases hel : eB ag ex i with
                  | false =>
                    rw [hel] at ge
                    have hfr' : Hid (∀ t, t < i + 1 → Elig ag ex t → at_ gr t ≠ y) := fun t ht he => by
                      by_cases hti : t < i
                      · exact hfr.out t hti he
                      · obtain rfl : t = i := by omega
                        rw [eB_true he] at hel
                        cases hel
                    clear hel
                    go_wp2
                    go_quiet (fail)
                    go_wp2
                    go_roundw
                    case rel => exact ⟨i + 1, by go_num, rfl, by omega, hfr'.out, below_drewN hA9 _, hE9⟩
                    case measure => simp [intOf]; omega
                  | true =>
                    rw [hel] at ge
                    by_cases hzy : z = y
                    · -- it strikes: the two walks agree
                      subst hzy
                      have hfin := HL.out.hit (by rw [hs0.out]; exact hjn) ⟨hfst.out, i, hik', eB_elig hel, by rw [hz.out, hy.out]⟩ (fun t ht ht' => hmiss.out t (by omega) (by rw [← hs0.out]; exact ht'))
                      rw [hy.out] at hfin
                      obtain ⟨rfl, rfl⟩ := hfin
                      clear hel hfr hmiss hfst
                      go_wp2
                      go_quiet (fail)
                      go_wp2
                      go_ret
                      exact ⟨rfl, below_drewN (B6.trans (hA9.mono B6.size)) _⟩
                    · have hne := bne_str hzy
                      have hfr' : Hid (∀ t, t < i + 1 → Elig ag ex t → at_ gr t ≠ y) := fun t ht he => by
                        by_cases hti : t < i
                        · exact hfr.out t hti he
                        · obtain rfl : t = i := by omega
                          rw [hz.out]
                          exact hzy
                      clear hel hzy
                      go_wp2
                      go_quiet (fail)
                      go_wp2
                      go_roundw
                      case rel => exact ⟨i + 1, by go_num, rfl, by omega, hfr'.out, below_drewN hA9 _, hE9⟩
                      case measure => simp [intOf]; omega
                · have hnot : Hid (∀ t : Nat, (j : Int) - 1 < (t : Int) → t < n0 → ¬ Hit sc ag gr ex k t) := fun t ht ht' => by
                    by_cases htj : t = j
                    · subst htj
                      rintro ⟨_, r, hr1, hr2, hr3⟩
                      rw [hy.out] at hr3
                      exact hfr.out r (by omega) hr2 hr3
                    · exact hmiss.out t (by omega) ht'
                  go_wp2
                  go_roundw
                  case rel => exact ⟨(j : Int) - 1, rfl, rfl, rfl, by omega, by omega, hnot.out, hA9, hE9⟩
                  case measure => simp [intOf]
            · -- seen higher up already
              have hcx := hid (fun m => has_yes (vt.drewN m) htl hp)
              have hnot : Hid (∀ i : Nat, (j : Int) - 1 < (i : Int) → i < n0 → ¬ Hit sc ag gr ex k i) := fun i hi hi' => by
                by_cases hij : i = j
                · subst hij
                  intro hh
                  have hp1 : p < i := by have := hp.1; rw [htl] at this; exact this
                  have := hh.1 p hp1
                  rw [hy.out, ← hp.2.1, at_take sc i p hp1] at this
                  exact this rfl
                · exact hmiss.out i (by omega) hi'
              clear vt htl hp v0 hc0 hJ1 hneg hJ2
              go_wp2
              go_quiet ((go_at_call 14; exact Calls.quiet_of_same (hcx.out _)))
              go_wp2
              go_roundw
              case rel => exact ⟨(j : Int) - 1, rfl, rfl, rfl, by omega, by omega, hnot.out, below_drewN hA8 _, hE8⟩
              case measure => simp [intOf]

theorem long0 {w : World} {a0 a1 a2 a3 : Option Addr} {n0 n1 n2 n3 c0 c1 c2 c3 : Nat} {sc ag gr ex : List ByteArray} (H0 : Hid (SArg w a0 n0 sc)) (H1 : Hid (SArg w a1 n1 ag)) (H2 : Hid (SArg w a2 n2 gr)) (H3 : Hid (SArg w a3 n3 ex))
    (m0 : n0 ≤ 9223372036854775807) (m1 : n1 ≤ 9223372036854775807) (m2 : n2 ≤ 9223372036854775807) (m3 : n3 ≤ 9223372036854775807) (h : 4096 < n0) :
    Calls Try.prog 3 #[.slice a0 n0 c0, .slice a1 n1 c1, .slice a2 n2 c2, .slice a3 n3 c3] w fun e w' => e = .returned (.bool true) ∧ Below w.heap.size w w' := by
  go_enter Try.func3, Try.ntmps3
  go_wp2_with fail
  refine (bytes_any H0 H1 H2 H3 m0 m1 m2 m3).mono ?_
  rintro e w0 ⟨⟨r, rfl⟩, rfl⟩
  cases r with
  | false =>
    go_wp2
    go_ret
    exact ⟨rfl, Below.refl _ _⟩
  | true =>
    go_wp2
    go_ret
    exact ⟨rfl, Below.refl _ _⟩

theorem long1 {w : World} {a0 a1 a2 a3 : Option Addr} {n0 n1 n2 n3 c0 c1 c2 c3 : Nat} {sc ag gr ex : List ByteArray} (H0 : Hid (SArg w a0 n0 sc)) (H1 : Hid (SArg w a1 n1 ag)) (H2 : Hid (SArg w a2 n2 gr)) (H3 : Hid (SArg w a3 n3 ex))
    (m0 : n0 ≤ 9223372036854775807) (m1 : n1 ≤ 9223372036854775807) (m2 : n2 ≤ 9223372036854775807) (m3 : n3 ≤ 9223372036854775807) (k0 : n0 ≤ 4096) (h : 4096 < n1) :
    Calls Try.prog 3 #[.slice a0 n0 c0, .slice a1 n1 c1, .slice a2 n2 c2, .slice a3 n3 c3] w fun e w' => e = .returned (.bool true) ∧ Below w.heap.size w w' := by
  go_enter Try.func3, Try.ntmps3
  go_wp2_with fail
  refine (bytes_any H0 H1 H2 H3 m0 m1 m2 m3).mono ?_
  rintro e w0 ⟨⟨r, rfl⟩, rfl⟩
  cases r with
  | false =>
    go_wp2
    go_ret
    exact ⟨rfl, Below.refl _ _⟩
  | true =>
    go_wp2
    go_ret
    exact ⟨rfl, Below.refl _ _⟩

theorem long2 {w : World} {a0 a1 a2 a3 : Option Addr} {n0 n1 n2 n3 c0 c1 c2 c3 : Nat} {sc ag gr ex : List ByteArray} (H0 : Hid (SArg w a0 n0 sc)) (H1 : Hid (SArg w a1 n1 ag)) (H2 : Hid (SArg w a2 n2 gr)) (H3 : Hid (SArg w a3 n3 ex))
    (m0 : n0 ≤ 9223372036854775807) (m1 : n1 ≤ 9223372036854775807) (m2 : n2 ≤ 9223372036854775807) (m3 : n3 ≤ 9223372036854775807) (k0 : n0 ≤ 4096) (k1 : n1 ≤ 4096) (h : 4096 < n2) :
    Calls Try.prog 3 #[.slice a0 n0 c0, .slice a1 n1 c1, .slice a2 n2 c2, .slice a3 n3 c3] w fun e w' => e = .returned (.bool true) ∧ Below w.heap.size w w' := by
  go_enter Try.func3, Try.ntmps3
  go_wp2_with fail
  refine (bytes_any H0 H1 H2 H3 m0 m1 m2 m3).mono ?_
  rintro e w0 ⟨⟨r, rfl⟩, rfl⟩
  cases r with
  | false =>
    go_wp2
    go_ret
    exact ⟨rfl, Below.refl _ _⟩
  | true =>
    go_wp2
    go_ret
    exact ⟨rfl, Below.refl _ _⟩

theorem long3 {w : World} {a0 a1 a2 a3 : Option Addr} {n0 n1 n2 n3 c0 c1 c2 c3 : Nat} {sc ag gr ex : List ByteArray} (H0 : Hid (SArg w a0 n0 sc)) (H1 : Hid (SArg w a1 n1 ag)) (H2 : Hid (SArg w a2 n2 gr)) (H3 : Hid (SArg w a3 n3 ex))
    (m0 : n0 ≤ 9223372036854775807) (m1 : n1 ≤ 9223372036854775807) (m2 : n2 ≤ 9223372036854775807) (m3 : n3 ≤ 9223372036854775807) (k0 : n0 ≤ 4096) (k1 : n1 ≤ 4096) (k2 : n2 ≤ 4096) (h : 4096 < n3) :
    Calls Try.prog 3 #[.slice a0 n0 c0, .slice a1 n1 c1, .slice a2 n2 c2, .slice a3 n3 c3] w fun e w' => e = .returned (.bool true) ∧ Below w.heap.size w w' := by
  go_enter Try.func3, Try.ntmps3
  go_wp2_with fail
  refine (bytes_any H0 H1 H2 H3 m0 m1 m2 m3).mono ?_
  rintro e w0 ⟨⟨r, rfl⟩, rfl⟩
  cases r with
  | false =>
    go_wp2
    go_ret
    exact ⟨rfl, Below.refl _ _⟩
  | true =>
    go_wp2
    go_ret
    exact ⟨rfl, Below.refl _ _⟩

theorem differ {w : World} {a0 a1 a2 a3 : Option Addr} {n0 n1 n2 n3 c0 c1 c2 c3 : Nat} {sc ag gr ex : List ByteArray} (H0 : Hid (SArg w a0 n0 sc)) (H1 : Hid (SArg w a1 n1 ag)) (H2 : Hid (SArg w a2 n2 gr)) (H3 : Hid (SArg w a3 n3 ex))
    (m0 : n0 ≤ 9223372036854775807) (m1 : n1 ≤ 9223372036854775807) (m2 : n2 ≤ 9223372036854775807) (m3 : n3 ≤ 9223372036854775807) (k0 : n0 ≤ 4096) (k1 : n1 ≤ 4096) (k2 : n2 ≤ 4096) (k3 : n3 ≤ 4096) (h : n1 ≠ n2) :
    Calls Try.prog 3 #[.slice a0 n0 c0, .slice a1 n1 c1, .slice a2 n2 c2, .slice a3 n3 c3] w fun e w' => e = .returned (.bool true) ∧ Below w.heap.size w w' := by
  have hd : ((n1 : Int) == (n2 : Int)) = false := by simp; omega
  go_enter Try.func3, Try.ntmps3
  go_wp2_with fail
  refine (bytes_any H0 H1 H2 H3 m0 m1 m2 m3).mono ?_
  rintro e w0 ⟨⟨r, rfl⟩, rfl⟩
  cases r with
  | false =>
    go_wp2
    go_ret
    exact ⟨rfl, Below.refl _ _⟩
  | true =>
    go_wp2_with fail
    refine (list_any H0 m0).mono ?_
    rintro e w0 ⟨⟨u0, rfl⟩, rfl⟩
    go_wp2_with fail
    refine (list_any H1 m1).mono ?_
    rintro e w0 ⟨⟨u1, rfl⟩, rfl⟩
    go_wp2_with fail
    refine (list_any H2 m2).mono ?_
    rintro e w0 ⟨⟨u2, rfl⟩, rfl⟩
    go_wp2_with fail
    refine (list_any H3 m3).mono ?_
    rintro e w0 ⟨⟨u3, rfl⟩, rfl⟩
    go_wp2
    all_goals
      go_ret
      exact ⟨rfl, Below.refl _ _⟩

theorem walk {w : World} {a0 a1 a2 a3 : Option Addr} {n0 n1 n2 n3 c0 c1 c2 c3 : Nat} {sc ag gr ex : List ByteArray} (h0 : SArg w a0 n0 sc) (h1 : SArg w a1 n1 ag) (h2 : SArg w a2 n2 gr) (h3 : SArg w a3 n3 ex)
    (m0 : n0 ≤ 9223372036854775807) (m1 : n1 ≤ 9223372036854775807) (m2 : n2 ≤ 9223372036854775807) (m3 : n3 ≤ 9223372036854775807) :
    Calls Try.prog 3 #[.slice a0 n0 c0, .slice a1 n1 c1, .slice a2 n2 c2, .slice a3 n3 c3] w fun e w' => e = .returned (.bool true) ∧ Below w.heap.size w w' := by
  by_cases k0 : 4096 < n0
  · exact long0 h0 h1 h2 h3 m0 m1 m2 m3 k0
  by_cases k1 : 4096 < n1
  · exact long1 h0 h1 h2 h3 m0 m1 m2 m3 (by omega) k1
  by_cases k2 : 4096 < n2
  · exact long2 h0 h1 h2 h3 m0 m1 m2 m3 (by omega) (by omega) k2
  by_cases k3 : 4096 < n3
  · exact long3 h0 h1 h2 h3 m0 m1 m2 m3 (by omega) (by omega) (by omega) k3
  by_cases hd : n1 = n2
  · subst hd
    exact core h0 h1 h2 h3 (by omega) (by omega) (by omega)
  · exact differ h0 h1 h2 h3 m0 m1 m2 m3 (by omega) (by omega) (by omega) (by omega) hd

/-- A slice of strings that came in, as the walk wants it. -/
theorem came {H : Type} {enc : TypeId × Value → H} {W : World} {base : Nat} {spare : Nat → Bool} {held : Bool} {a : Option Addr} {len cap : Nat} {d : DataW H} {p : List MemPlace} (h : DataW.Trod enc Try.prog W base spare held 22 (.slice a len cap) d p) (hs : ∀ b, spare b = true) :
    ∃ l : List ByteArray, SArg W a len l ∧ len ≤ 9223372036854775807 := by
  obtain ⟨fuel, hf⟩ := h
  rcases open_strings Try.underlying22 Try.underlying9 (by kernel_rfl) hf with ⟨hcs, _⟩ | ⟨x, l, c, ss, hcs, _, hl, hm, hz, _, hcell, _⟩
  · simp [Value.cells] at hcs
    obtain ⟨rfl, rfl, rfl⟩ := hcs
    exact ⟨[], ⟨rfl, fun _ => rfl, fun h => by omega⟩, by omega⟩
  · simp [Value.cells] at hcs
    obtain ⟨rfl, rfl, rfl⟩ := hcs
    rw [hs x.block, if_pos rfl] at hz
    refine ⟨ss.take len, ⟨by rw [List.length_take]; omega, (fun h => by cases h), fun hn => ?_⟩, by unfold maxLen at hm; omega⟩
    obtain ⟨b, off, spot⟩ := x
    have hx0 := hcell 0 (by omega)
    have hsp : spot = none := by simpa [Addr.add] using World.cell?_spot hx0
    subst hsp
    refine ⟨b, off, rfl, ?_, fun i hi => ?_⟩
    · have := World.block_lt_of_cell? W _ hx0
      simpa [Addr.add_lit] using this
    · have := hcell i (by omega)
      rw [Addr.add_lit] at this
      rw [this]
      simp [at_, List.getD, hi]

/-! ### THE ROW's STEP -/
set_option maxRecDepth 100000 in
theorem lifted (os : Os) (started : os.Started) (H : Type) (enc : TypeId × Value → H) :
    ReturnsInHanded {} Try.checked os 3 .any (Rows.fnLowestMatchesScaleWalkSpec.pre6 enc Try.prog Try.f3 Rows.fnLowestMatchesScaleWalkRow.domain false) (Rows.fnLowestMatchesScaleWalkSpec.post enc Try.prog Try.f3 false true false false) := by
  refine returnsInHanded_of_change (C := Try.checked) own started (by kernel_rfl) Try.func3
    (ChangeSpec.witness6 (enc := enc) (C := Try.checked) false ⟨#[], #[.slice none 0 0, .slice none 0 0, .slice none 0 0, .slice none 0 0], []⟩ 8 (by kernel_rfl) (by kernel_rfl) (by kernel_rfl) (by kernel_rfl)) ?_
  intro W base args ds gs before hval0 hW hcnd _
  have hval : ∀ (j : Nat) t v, Try.f3.params[j]? = some t → args[j]? = some v → Value.okWide Try.prog W .any base t v := hval0
  have hW' := hW
  obtain ⟨p, q, hA0, hV, rfl, hfz, hnd⟩ := hW
  have hA : DataW.TrodAll enc Try.prog W 0 (fun _ => true) true Try.f3.params.toList args.toList ds p := hA0
  rw [Try.params3] at hA hval
  obtain ⟨v0, vs0, d0, ds0, p0, q0, hargs, rfl, rfl, h0, r0⟩ := trodAll_cons hA
  obtain ⟨v1, vs1, d1, ds1, p1, q1, rfl, rfl, rfl, h1, r1⟩ := trodAll_cons r0
  obtain ⟨v2, vs2, d2, ds2, p2, q2, rfl, rfl, rfl, h2, r2⟩ := trodAll_cons r1
  obtain ⟨v3, vs3, d3, ds3, p3, q3, rfl, rfl, rfl, h3, r3⟩ := trodAll_cons r2
  obtain ⟨rfl, rfl, rfl⟩ := trodAll_nil r3
  obtain rfl : args = #[v0, v1, v2, v3] := by cases args; simp_all
  obtain ⟨rfl, rfl⟩ := trodVars_none hV
  obtain ⟨a0, len0, cap0, rfl⟩ := okWide_slice Try.underlying22 (hval 0 22 v0 rfl rfl)
  obtain ⟨a1, len1, cap1, rfl⟩ := okWide_slice Try.underlying22 (hval 1 22 v1 rfl rfl)
  obtain ⟨a2, len2, cap2, rfl⟩ := okWide_slice Try.underlying22 (hval 2 22 v2 rfl rfl)
  obtain ⟨a3, len3, cap3, rfl⟩ := okWide_slice Try.underlying22 (hval 3 22 v3 rfl rfl)
  have lt0 : ∀ x ∈ p0, x.block < W.heap.size := by obtain ⟨m, hm⟩ := h0; exact DataW.trod_lt m _ _ _ hm
  have lt1 : ∀ x ∈ p1, x.block < W.heap.size := by obtain ⟨m, hm⟩ := h1; exact DataW.trod_lt m _ _ _ hm
  have lt2 : ∀ x ∈ p2, x.block < W.heap.size := by obtain ⟨m, hm⟩ := h2; exact DataW.trod_lt m _ _ _ hm
  have lt3 : ∀ x ∈ p3, x.block < W.heap.size := by obtain ⟨m, hm⟩ := h3; exact DataW.trod_lt m _ _ _ hm
  obtain ⟨l0, w0, m0⟩ := came h0 (fun _ => rfl)
  obtain ⟨l1, w1, m1⟩ := came h1 (fun _ => rfl)
  obtain ⟨l2, w2, m2⟩ := came h2 (fun _ => rfl)
  obtain ⟨l3, w3, m3⟩ := came h3 (fun _ => rfl)
  clear hA0 hval0
  refine (walk (c0 := cap0) (c1 := cap1) (c2 := cap2) (c3 := cap3) w0 w1 w2 w3 m0 m1 m2 m3).mono fun e W' ⟨he, bel⟩ => ?_
  subst he
  exact ⟨_, rfl, _, _, _, [], _, [], hW', trodAll_mk1 (shut_bool Try.underlying4 _), (trodAll_cons_mk (Below.trod laidOut (by kernel_rfl) (of_decide_eq_true (by kernel_rfl)) h0 bel lt0) (trodAll_cons_mk (Below.trod laidOut (by kernel_rfl) (of_decide_eq_true (by kernel_rfl)) h1 bel lt1) (trodAll_cons_mk (Below.trod laidOut (by kernel_rfl) (of_decide_eq_true (by kernel_rfl)) h2 bel lt2) (trodAll_cons_mk (Below.trod laidOut (by kernel_rfl) (of_decide_eq_true (by kernel_rfl)) h3 bel lt3) trodAll_mk0)))), rfl, bel.frame _, fun h => by cases h⟩

theorem over : Rows.fnLowestMatchesScaleWalkRow.holds Try.pinned (OpenSpec.ofChange Rows.fnLowestMatchesScaleWalkSpec) :=
  OpenClaim.holds_of_wide 3 Try.f3 rfl rfl rfl rfl rfl rfl rfl ⟨rfl, rfl, rfl, rfl, rfl⟩ rfl rfl rfl rfl rfl (by kernel_rfl) Try.func3 (by kernel_rfl)
    (of_decide_eq_true (by kernel_rfl)) (by unfold Func.isWrapper; first | (rw [if_pos (by decide +kernel)]; kernel_rfl) | (rw [if_neg (by decide +kernel)]; exact ⟨rfl, rfl⟩))
    (fun os started H enc _ => lifted os started H enc)

/-- ████ THE STATEMENT ████ -/
theorem proved : Rows.FnLowestMatchesScaleWalkSaid := over
end Go.Proofs.Qxb6000665a.fnLowestMatchesScaleWalk
