/-
  'Rows.FnNulStringSplitsAtNulsSaid', PROVED. The frame is the seed's shell (proof-skeleton.mjs); the walk is out of the contracts of WalkA to WalkJ.
-/
import Derived.Test.Qxb6001749aRows
import Derived.Test.Qxb6001749aWalkJ
import Derived.WalkKit
import Derived.ProofKit
import Derived.OpenShut
import Derived.ShutString
import Derived.ChangeOld
import Derived.Below
namespace Go.Proofs.Qxb6001749a.fnNulStringSplitsAtNuls
open Go.ChangeShapes Go.WideShapes Go.ChangeAt Go.RowKit
open Go.ChangeMaps (open_string shut_string)
set_option linter.unusedVariables false

theorem own : ownKnob Try.prog.godebug = none := by kernel_rfl
theorem laidOut : laidOutB Try.prog = true := by kernel_rfl

/-- What holds at the head of each round of the reading. -/
def Inv (w wr : World) (l : List Int) (b R G n P : Nat) (jv : Value) : Prop :=
  ∃ (A B J : List Int) (a2 : Option Addr) (jl ml cap2 : Nat), St l A B P J ∧ J.length = jl ∧ B.length = ml ∧ jv = .slice (some ⟨G, 0, none⟩) jl (n + 1) ∧ wr.ownsRow G 5 1 (.slice (some ⟨G, 0, none⟩) jl (n + 1)) jl (cellsOf J) ∧
    Reader wr R a2 ml cap2 false ∧ View wr b a2 cap2 B ∧ View wr b (some ⟨b, 0, none⟩) n l ∧ Below w.heap.size w wr

theorem piece_nz {B B' : List Int} {str : ByteArray} (h : Cut B (bo str) B') (j : Nat) (hj : j < str.size) : ¬ ((str[j]'hj).toNat : Int) = 0 := by
  have hm : ((str[j]'hj).toNat : Int) ∈ bo str := by
    have := bo_get? str j hj
    exact List.mem_of_getElem? this
  exact h.1 _ hm

set_option maxHeartbeats 1600000 in
theorem core {w : World} {ao : Option Addr} {n c : Nat} {l : List Int} (h : Arg w ao n l) (hn : n ≤ 1048576) (hpos : 0 < n) (hby : ∀ x ∈ l, 0 ≤ x ∧ x ≤ 255) :
    Calls Try.prog 9 #[.slice ao n c] w fun e w' => e = .returned (.bool true) ∧ Below w.heap.size w w' := by
  obtain ⟨i0, hi, hz0, hz1, hz2⟩ := info_parts Try.info5
  have hl := hid h.1
  go_enter Try.func9, Try.ntmps9
  go_wp2_with fail
  refine (bytes27_yes ao n c w hn).mono ?_
  rintro e w0 ⟨rfl, rfl⟩
  go_wp2_with fail
  refine (clone_split h hn).mono ?_
  rintro e w1 ⟨a1, c1, b, rfl, v1, hs, hb, g1⟩
  have B1 := bel_start g1
  clear h g1
  rcases hs with ⟨_, _, rfl⟩ | ⟨rfl, hbl, rfl⟩
  · have := hl.out; simp at this; omega
  go_wp2_with fail
  refine (reader_view v1 (by omega)).mono ?_
  rintro e w2 ⟨R, rfl, r2, v2, hbR, hR, g2⟩
  have B2 := bel_none B1 g2
  have hR' : w0.heap.size ≤ R := Nat.le_trans B1.size hR
  have hbl2 : b < w2.heap.size := Nat.lt_of_lt_of_le hbl g2.size
  have hRl := r2.lt
  clear v1 g2 B1 hR hbl
  go_wp2_with (at_make; refine wpList_make_own _ rfl _ _ 22 rfl w2.heap.size 5 i0 (.int .u8 0) 1 Try.underlying22 hi hz0 hz1 _ _ _ (n + 1) rfl rfl (by omega) ?b2 ?b3 (Nat.le_refl _) ?_)
  case b2 => rw [hz2]; omega
  case b3 => unfold maxLen; omega
  intro w3 hown3 hgrow3
  have B3 := bel_none B2 hgrow3
  have r3 := r2.kept hgrow3 (by simp)
  have v3 := v2.kept hgrow3 (by simp)
  have hG' : w0.heap.size ≤ w2.heap.size := B2.size
  clear hgrow3 r2 v2 B2
  generalize w2.heap.size = G at *
  go_wp2
  go_loopw [4, 5, 6] (fun jv pv kv wr => ∃ P : Nat, pv = .int .i64 P ∧ kv = .int .i64 P ∧ Inv w0 wr l b R G n P jv) (fun _ _ k _ => n + 1 - (intOf k).toNat)
  case atStart => exact ⟨0, rfl, rfl, [], l, [], _, 0, n, _, St.start l, rfl, hl.out, rfl, hown3, r3, v3, v3, B3⟩
  case round =>
    obtain ⟨P, rfl, rfl, A, B, J, a2, jl, ml, cap2, hst, hjl0, hml0, rfl, hown, hr, hv, hvl, hB⟩ := hrel
    have hJL := hid hjl0
    have hML := hid hml0
    have hAB : A.length + ml = n := by rw [← hml0, ← hl.out, hst.1]; simp
    have hPn : P ≤ n := by have := hst.2.1; omega
    clear hjl0 hml0
    by_cases hBe : B = []
    · have hml : ml = 0 := by rw [← hML.out, hBe]; rfl
      subst hml
      subst hBe
      have hc := hid (show ∀ i, i < n → wr.cell? ⟨b, i, none⟩ = some (.int .u8 (l.getD i 0)) from fun i hi => by
        rcases hvl with ⟨h, _⟩ | ⟨off, h, _, _, h3⟩
        · cases h
        · simp at h
          subst h
          simpa using h3 i (by rw [hl.out]; exact hi))
      obtain ⟨la, x, hla⟩ := last_of l (by intro h; have := hl.out; rw [h] at this; simp at this; omega)
      have hlast : l.getD (n - 1) 0 = x := by
        have hn1 : n - 1 = la.length := by have := hl.out; rw [hla] at this; simp at this; omega
        rw [hn1, hla]
        simp [List.getD]
      have hLA := hid hla
      have hLS := hid hlast
      clear hla hlast
      by_cases hx : x = 0
      · subst hx
        have hdn := hst.done_zero hLA.out
        have hPz := hid hdn.1
        have hJ := hid hdn.2
        have hjb : jl + 1 ≤ n + 1 := by
          have h1 := congrArg List.length hJ.out
          have h2 := hl.out
          have h3 := hJL.out
          simp at h1
          omega
        clear hdn
        go_wp2_with fail
        refine (rest_any hr).mono ?_
        rintro e w4 ⟨rfl, rfl⟩
        go_wp2_with fail
        refine (rest_any hr).mono ?_
        rintro e w5 ⟨rfl, rfl⟩
        go_wp2_with fail
        refine (bad_any hr).mono ?_
        rintro e w6 ⟨rfl, rfl⟩
        clear hr hv
        go_wp2
        go_loop [10, 11] (fun u i => ∃ j : Nat, j ≤ n ∧ i = .int .i64 j ∧ u = .int .i64 (zc (l.take j) : Nat)) (fun _ i => n - (intOf i).toNat)
        case atStart => exact ⟨0, Nat.zero_le _, rfl, rfl⟩
        case round =>
          obtain ⟨j, hj, rfl, rfl⟩ := hrel
          have hzl : zc (l.take j) ≤ n := Nat.le_trans (zc_le _) (by simp; omega)
          by_cases hjn : j < n
          · have gx := hc.out j hjn
            have hts := hid (zc_take_succ l j (by rw [hl.out]; exact hjn))
            have hxx := hid (show l.getD j 0 = l[j]'(by rw [hl.out]; exact hjn) by simp [List.getD, show j < l.length by rw [hl.out]; exact hjn])
            rw [← hxx.out] at hts
            generalize l.getD j 0 = x at gx hts hxx
            go_wp2
            · have hx0 : (x == 0) = true := by assumption
              go_round
              case rel => exact ⟨j + 1, by omega, by go_num, by rw [hts.out, if_pos (by simpa using hx0)]; go_num⟩
              case measure => simp [intOf]; omega
            · have hx0 : (x == 0) = false := by assumption
              go_round
              case rel => exact ⟨j + 1, by omega, by go_num, by rw [hts.out, if_neg (by simpa using hx0)]; rfl⟩
              case measure => simp [intOf]; omega
          · have hjn' : j = n := by omega
            subst hjn'
            have gl := hc.out (j - 1) (by omega)
            rw [hLS.out] at gl
            have hzt : zc (l.take j) = P := by rw [List.take_of_length_le (by rw [hl.out]; exact Nat.le_refl _)]; exact hPz.out.symm
            rw [hzt]
            clear hzt hzl hj hc
            go_wp2_with (at_builtin; refine wpList_append_fits _ rfl (.tmp 116) (.tmp 117) 22 rfl G 5 i0 1 Try.underlying22 hi hz1 G jl (j + 1) _ rfl (hown.alloc _) ⟨w6.heap.size, 0, none⟩ 1 1 [.int .u8 0] rfl rfl ?x1 ?x2 ?x3 ?_)
            case x2 => rfl
            intro w7 hown7 hgrow7
            have e7 : cellsOf J ++ [.int .u8 0] = cellsOf l := by rw [← hJ.out]; simp [cellsOf]
            rw [e7] at hown7
            have vl7 := hvl.kept (gb_first hgrow7) (by simp; omega)
            have B7 := bel_some hB (gb_first hgrow7) hG'
            obtain ⟨hl7, v7, _⟩ := View.of_row hown7
            have HL7 := hid hl7.symm
            clear e7 hown7 hgrow7 hown hl7
            go_wp2_with fail
            refine (equal_any v7 vl7 HL7.out hl.out).mono ?_
            rintro e w8 ⟨rfl, q, rfl⟩
            rw [decide_eq_true rfl]
            go_wp2
            go_ret
            exact ⟨rfl, below_drewN B7 q⟩
      · have hdn := hst.done_more hLA.out hx
        obtain ⟨P1, rfl⟩ : ∃ P1, P = P1 + 1 := ⟨P - 1, by omega⟩
        have hPz := hid (show P1 = zc l by omega)
        have hJ := hid hdn.2
        have hx' : (x == 0) = false := beq_eq_false_iff_ne.2 hx
        clear hdn hx
        go_wp2_with fail
        refine (rest_any hr).mono ?_
        rintro e w4 ⟨rfl, rfl⟩
        go_wp2_with fail
        refine (rest_any hr).mono ?_
        rintro e w5 ⟨rfl, rfl⟩
        go_wp2_with fail
        refine (bad_any hr).mono ?_
        rintro e w6 ⟨rfl, rfl⟩
        clear hr hv
        go_wp2
        go_loop [10, 11] (fun u i => ∃ j : Nat, j ≤ n ∧ i = .int .i64 j ∧ u = .int .i64 (zc (l.take j) : Nat)) (fun _ i => n - (intOf i).toNat)
        case atStart => exact ⟨0, Nat.zero_le _, rfl, rfl⟩
        case round =>
          obtain ⟨j, hj, rfl, rfl⟩ := hrel
          have hzl : zc (l.take j) ≤ n := Nat.le_trans (zc_le _) (by simp; omega)
          by_cases hjn : j < n
          · have gx := hc.out j hjn
            have hts := hid (zc_take_succ l j (by rw [hl.out]; exact hjn))
            have hxx := hid (show l.getD j 0 = l[j]'(by rw [hl.out]; exact hjn) by simp [List.getD, show j < l.length by rw [hl.out]; exact hjn])
            rw [← hxx.out] at hts
            generalize l.getD j 0 = x at gx hts hxx
            go_wp2
            · have hx0 : (x == 0) = true := by assumption
              go_round
              case rel => exact ⟨j + 1, by omega, by go_num, by rw [hts.out, if_pos (by simpa using hx0)]; go_num⟩
              case measure => simp [intOf]; omega
            · have hx0 : (x == 0) = false := by assumption
              go_round
              case rel => exact ⟨j + 1, by omega, by go_num, by rw [hts.out, if_neg (by simpa using hx0)]; rfl⟩
              case measure => simp [intOf]; omega
          · have hjn' : j = n := by omega
            subst hjn'
            have gl := hc.out (j - 1) (by omega)
            rw [hLS.out] at gl
            have hzt : zc (l.take j) = P1 := by rw [List.take_of_length_le (by rw [hl.out]; exact Nat.le_refl _)]; exact hPz.out.symm
            rw [hzt]
            clear hzt hzl hj hc
            rw [hJ.out] at hown
            obtain ⟨hl7, v7, _⟩ := View.of_row hown
            have HL7 := hid hl7.symm
            clear hown hl7
            go_wp2_with fail
            refine (equal_any v7 hvl HL7.out hl.out).mono ?_
            rintro e w8 ⟨rfl, q, rfl⟩
            rw [decide_eq_true rfl]
            go_wp2
            go_ret
            exact ⟨rfl, below_drewN hB q⟩
    have hm : 0 < ml := by rw [← hML.out]; exact List.length_pos_iff.2 hBe
    go_wp2_with fail
    refine (rest_any hr).mono ?_
    rintro e w4 ⟨rfl, rfl⟩
    go_wp2_with fail
    refine (zznul_any hr hv hML.out hbR (fun x hx => hby x (by rw [hst.1]; simp [hx]))).mono ?_
    rintro e w5 ⟨str, a3, m3, cap3, B', rfl, r5, v5, hm3, hcut0, g5⟩
    have hcl := hcut0.len hBe
    rw [bo_length, hm3, hML.out] at hcl
    have hM3 := hid hm3
    have hcut := hid hcut0
    have hown' := hown.kept g5 (by right; simp [Value.ownBlock]; omega)
    have hvl' := hvl.kept g5 (by simpa using hbR)
    have hB5 := bel_some hB g5 hR'
    clear hm3 hown hr hv hvl hB g5 hcut0
    go_wp2_with fail
    refine (rest_any r5).mono ?_
    rintro e w6 ⟨rfl, rfl⟩
    have hd1 : decide ((ml : Int) ≤ (m3 : Int)) = false := decide_eq_false (by omega)
    have hd2 : decide (ml ≤ m3) = false := decide_eq_false (by omega)
    by_cases hP : P = 0
    · have hAJ : A = J := by
        subst hP
        obtain ⟨h1, h2⟩ := hst.zero
        rw [h1, h2]
      have hQ := hid (show A.length = jl by rw [hAJ]; exact hJL.out)
      have hown5 : w6.ownsRow G 5 1 (.slice (some ⟨G, 0, none⟩) jl (n + 1)) jl (cellsOf A) := by rw [hAJ]; exact hown'
      have hjb : jl + ml ≤ n := by have := hQ.out; omega
      clear hown' hAJ
      go_wp2
      go_loopw [4, 9] (fun v i wi => ∃ j : Nat, j ≤ str.size ∧ i = .int .i64 j ∧ v = .slice (some ⟨G, 0, none⟩) (jl + j) (n + 1) ∧
          wi.ownsRow G 5 1 (.slice (some ⟨G, 0, none⟩) (jl + j) (n + 1)) (jl + j) (cellsOf (A ++ (bo str).take j)) ∧ w6.grownBy wi (some G)) (fun _ i _ => str.size - (intOf i).toNat)
      case atStart => exact ⟨0, Nat.zero_le _, rfl, rfl, by simpa using hown5, World.grownBy.refl _ _⟩
      case round =>
        obtain ⟨j, hj, rfl, rfl, hownj, hgj⟩ := hrel
        by_cases hjl : j < str.size
        · go_wp2_with (at_builtin; refine wpList_append_fits _ rfl (.tmp 61) (.tmp 65) 22 rfl G 5 i0 1 Try.underlying22 hi hz1 G (jl + j) (n + 1) _ rfl (hownj.alloc _) ⟨wr.heap.size, 0, none⟩ 1 1 [.int .u8 ((str[j]'hjl).toNat : Int)] rfl rfl ?c1 ?c2 ?c3 ?_)
          · have hzz : (((str[j]'hjl).toNat : Int) == 0) = true := by assumption
            exact absurd (by simpa using hzz) (piece_nz hcut.out j hjl)
          case c1 => intro t u ht; exact cells_new _ _ _ t u ht
          case c2 => exact ints_oneCell .u8 [((str[j]'hjl).toNat : Int)]
          case c3 => omega
          intro wn hownn hgrown
          have en : cellsOf (A ++ (bo str).take j) ++ [.int .u8 ((str[j]'hjl).toNat : Int)] = cellsOf (A ++ (bo str).take (j + 1)) := by rw [bo_take str j hjl]; simp [cellsOf]
          rw [en] at hownn
          have hgn := gb_trans hgj (gb_first hgrown)
          clear en hgrown hownj hgj
          go_wp2
          go_roundw
          case rel => first | exact ⟨j + 1, by omega, by go_num, rfl, hownn, hgn⟩ | ((repeat apply Exists.intro); exact ⟨⟨j + 1, by omega, by go_num, rfl, hownn, hgn⟩, rfl⟩)
          case measure => simp [intOf]; omega
        · have hje : j = str.size := by omega
          subst hje
          rw [List.take_of_length_le (by rw [bo_length]; exact Nat.le_refl _)] at hownj
          have rj := r5.kept hgj (by simp; omega)
          have vj := v5.kept hgj (by simp; omega)
          have vlj := hvl'.kept hgj (by simp; omega)
          have Bj := bel_some hB5 hgj hG'
          obtain ⟨A', hst', hlen'⟩ := hst.step hBe hcut.out
          have hlen := hid (show (A ++ bo str).length = jl + str.size by rw [List.length_append, bo_length, hQ.out])
          clear hgj hst hlen' hcut
          go_wp2
          go_roundw
          case rel => exact ⟨P + 1, by go_num, by go_num, A', B', A ++ bo str, a3, _, m3, cap3, hst', hlen.out, hM3.out, rfl, hownj, rj, vj, vlj, Bj⟩
          case measure => simp [intOf]; omega
    · have hP' : 0 < P := by omega
      have hAJ := hid (hst.more hP' hBe)
      have hQ := hid (show A.length = jl + 1 by rw [hAJ.out]; simp [hJL.out])
      have hjb : jl + 1 + ml ≤ n := by have := hQ.out; omega
      go_wp2_with (at_builtin; refine wpList_append_fits _ rfl (.tmp 48) (.tmp 49) 22 rfl G 5 i0 1 Try.underlying22 hi hz1 G jl (n + 1) _ rfl (hown'.alloc _) ⟨w6.heap.size, 0, none⟩ 1 1 [.int .u8 0] rfl rfl ?d1 ?d2 ?d3 ?_)
      case d1 => intro t u ht; exact cells_new _ _ _ t u ht
      case d2 => exact ints_oneCell .u8 [0]
      case d3 => omega
      intro w7 hown7 hgrow7
      have e7 : cellsOf J ++ [.int .u8 0] = cellsOf A := by rw [hAJ.out]; simp [cellsOf]
      have hown5 : w7.ownsRow G 5 1 (.slice (some ⟨G, 0, none⟩) (jl + 1) (n + 1)) (jl + 1) (cellsOf A) := by rw [← e7]; exact hown7
      have g7 := gb_first hgrow7
      clear e7 hown7 hgrow7 hown' hAJ
      go_wp2
      go_loopw [4, 9] (fun v i wi => ∃ j : Nat, j ≤ str.size ∧ i = .int .i64 j ∧ v = .slice (some ⟨G, 0, none⟩) ((jl + 1) + j) (n + 1) ∧
          wi.ownsRow G 5 1 (.slice (some ⟨G, 0, none⟩) ((jl + 1) + j) (n + 1)) ((jl + 1) + j) (cellsOf (A ++ (bo str).take j)) ∧ w7.grownBy wi (some G)) (fun _ i _ => str.size - (intOf i).toNat)
      case atStart => exact ⟨0, Nat.zero_le _, rfl, rfl, by simpa using hown5, World.grownBy.refl _ _⟩
      case round =>
        obtain ⟨j, hj, rfl, rfl, hownj, hgj⟩ := hrel
        by_cases hjl : j < str.size
        · go_wp2_with (at_builtin; refine wpList_append_fits _ rfl (.tmp 61) (.tmp 65) 22 rfl G 5 i0 1 Try.underlying22 hi hz1 G ((jl + 1) + j) (n + 1) _ rfl (hownj.alloc _) ⟨wr.heap.size, 0, none⟩ 1 1 [.int .u8 ((str[j]'hjl).toNat : Int)] rfl rfl ?e1 ?e2 ?e3 ?_)
          · have hzz : (((str[j]'hjl).toNat : Int) == 0) = true := by assumption
            exact absurd (by simpa using hzz) (piece_nz hcut.out j hjl)
          case e1 => intro t u ht; exact cells_new _ _ _ t u ht
          case e2 => exact ints_oneCell .u8 [((str[j]'hjl).toNat : Int)]
          case e3 => omega
          intro wn hownn hgrown
          have en : cellsOf (A ++ (bo str).take j) ++ [.int .u8 ((str[j]'hjl).toNat : Int)] = cellsOf (A ++ (bo str).take (j + 1)) := by rw [bo_take str j hjl]; simp [cellsOf]
          rw [en] at hownn
          have hgn := gb_trans hgj (gb_first hgrown)
          clear en hgrown hownj hgj
          go_wp2
          go_roundw
          case rel => first | exact ⟨j + 1, by omega, by go_num, rfl, hownn, hgn⟩ | ((repeat apply Exists.intro); exact ⟨⟨j + 1, by omega, by go_num, rfl, hownn, hgn⟩, rfl⟩)
          case measure => simp [intOf]; omega
        · have hje : j = str.size := by omega
          subst hje
          rw [List.take_of_length_le (by rw [bo_length]; exact Nat.le_refl _)] at hownj
          have rj := (r5.kept g7 (by simp; omega)).kept hgj (by simp; omega)
          have vj := (v5.kept g7 (by simp; omega)).kept hgj (by simp; omega)
          have vlj := (hvl'.kept g7 (by simp; omega)).kept hgj (by simp; omega)
          have Bj := bel_some (bel_some hB5 g7 hG') hgj hG'
          obtain ⟨A', hst', hlen'⟩ := hst.step hBe hcut.out
          have hlen := hid (show (A ++ bo str).length = (jl + 1) + str.size by rw [List.length_append, bo_length, hQ.out])
          clear hgj hst hlen' hcut
          go_wp2
          go_roundw
          case rel => exact ⟨P + 1, by go_num, by go_num, A', B', A ++ bo str, a3, _, m3, cap3, hst', hlen.out, hM3.out, rfl, hownj, rj, vj, vlj, Bj⟩
          case measure => simp [intOf]; omega
theorem empty {w : World} {ao : Option Addr} {c : Nat} {l : List Int} (h : Arg w ao 0 l) :
    Calls Try.prog 9 #[.slice ao 0 c] w fun e w' => e = .returned (.bool true) ∧ Below w.heap.size w w' := by
  obtain ⟨i0, hi, hz0, hz1, hz2⟩ := info_parts Try.info5
  go_enter Try.func9, Try.ntmps9
  go_wp2_with fail
  refine (bytes27_yes ao 0 c w (by omega)).mono ?_
  rintro e w0 ⟨rfl, rfl⟩
  go_wp2_with fail
  refine (clone_any h (by omega)).mono ?_
  rintro e w1 ⟨a1, c1, rfl, _, g1⟩
  have B1 := bel_start g1
  clear h g1
  go_wp2_with fail
  refine (reader_only).mono ?_
  rintro e w2 ⟨R, rfl, r2, hR0, g2⟩
  clear hR0
  have B2 := bel_none B1 g2
  clear g2 B1
  go_wp2_with (at_make; refine wpList_make_own _ rfl _ _ 22 rfl w2.heap.size 5 i0 (.int .u8 0) 1 Try.underlying22 hi hz0 hz1 _ _ _ 1 rfl rfl (by omega) ?b2 ?b3 (Nat.le_refl _) ?_)
  case b2 => rw [hz2]; omega
  case b3 => unfold maxLen; omega
  intro w3 hown3 hgrow3
  have B3 := bel_none B2 hgrow3
  have r3 := r2.kept hgrow3 (by simp)
  clear hgrow3 r2 B2 hown3
  generalize w2.heap.size = G at *
  go_wp2
  refine wp_loop_rounds 1 ?_
  rw [rounds_succ]
  go_wp2_with fail
  refine (rest_any r3).mono ?_
  rintro e w4 ⟨rfl, rfl⟩
  go_wp2_with fail
  refine (rest_any r3).mono ?_
  rintro e w5 ⟨rfl, rfl⟩
  go_wp2_with fail
  refine (bad_any r3).mono ?_
  rintro e w6 ⟨rfl, rfl⟩
  go_wp2
  refine wp_loop_rounds 1 ?_
  rw [rounds_succ]
  go_wp2_with fail
  refine (equal_nil _ _ _ _ _).mono ?_
  rintro e w7 ⟨rfl, rfl⟩
  go_wp2
  go_ret
  exact ⟨rfl, B3⟩

theorem wide {w : World} {ao : Option Addr} {n c : Nat} (hn : 1048576 < n) :
    Calls Try.prog 9 #[.slice ao n c] w fun e w' => e = .returned (.bool true) ∧ Below w.heap.size w w' := by
  go_enter Try.func9, Try.ntmps9
  go_wp2_with fail
  refine (bytes27_no ao n c w hn).mono ?_
  rintro e w0 ⟨rfl, rfl⟩
  go_wp2
  go_ret
  exact ⟨rfl, Below.refl _ _⟩

theorem walk (a0 : Option Addr) (len0 cap0 : Nat) (z0 : List Int) (w : World) (w0 : IsRow .u8 w a0 len0 cap0 z0) :
    Calls Try.prog 9 #[.slice a0 len0 cap0] w fun e w' => e = .returned (.bool true) ∧ Below w.heap.size w w' := by
  obtain ⟨ha, hby, _⟩ := w0.arg
  by_cases h : 1048576 < len0
  · exact wide h
  · by_cases h0 : len0 = 0
    · subst h0
      exact empty ha
    · exact core ha (by omega) (by omega) hby

/-! ### THE ROW's STEP: WRITTEN OUT: LEAVE IT -/
set_option maxRecDepth 100000 in
theorem lifted (os : Os) (started : os.Started) (H : Type) (enc : TypeId × Value → H) :
    ReturnsInHanded {} Try.checked os 9 .any (Rows.fnNulStringSplitsAtNulsSpec.pre6 enc Try.prog Try.f9 Rows.fnNulStringSplitsAtNulsRow.domain false) (Rows.fnNulStringSplitsAtNulsSpec.post enc Try.prog Try.f9 false true false false) := by
  refine returnsInHanded_of_change (C := Try.checked) own started (by kernel_rfl) Try.func9
    (ChangeSpec.witness6 (enc := enc) (C := Try.checked) false ⟨#[], #[.slice none 0 0], []⟩ 8 (by kernel_rfl) (by kernel_rfl) (by kernel_rfl) (by kernel_rfl)) ?_
  intro W base args ds gs before hval0 hW hcnd _
  have hval : ∀ (j : Nat) t v, Try.f9.params[j]? = some t → args[j]? = some v → Value.okWide Try.prog W .any base t v := hval0
  have hW' := hW
  obtain ⟨p, q, hA0, hV, rfl, hfz, hnd⟩ := hW
  have hA : DataW.TrodAll enc Try.prog W 0 (fun _ => true) true Try.f9.params.toList args.toList ds p := hA0
  rw [Try.params9] at hA hval
  obtain ⟨v0, vs0, d0, ds0, p0, q0, hargs, rfl, rfl, h0, r0⟩ := trodAll_cons hA
  obtain ⟨rfl, rfl, rfl⟩ := trodAll_nil r0
  obtain rfl : args = #[v0] := by cases args; simp_all
  obtain ⟨rfl, rfl⟩ := trodVars_none hV
  obtain ⟨a0, len0, cap0, rfl⟩ := okWide_slice Try.underlying22 (hval 0 22 v0 rfl rfl)
  have k0 := h0
  have lt0 : ∀ x ∈ p0, x.block < W.heap.size := by obtain ⟨m, hm⟩ := k0; exact DataW.trod_lt m _ _ _ hm
  obtain ⟨z0, w0⟩ : ∃ zs, IsRow .u8 W a0 len0 cap0 zs := by
    obtain ⟨fuel, hf⟩ := h0
    rcases open_ints Try.underlying22 Try.underlying5 (by kernel_rfl) hf with ⟨hcs, _⟩ | ⟨x, l, c, zs, hcs, _, hl, hm, hz, _, hcell, hwz⟩
    · simp [Value.cells] at hcs
      obtain ⟨rfl, rfl, rfl⟩ := hcs
      exact ⟨[], .inl ⟨rfl, rfl, rfl, rfl⟩⟩
    · simp [Value.cells] at hcs
      obtain ⟨rfl, rfl, rfl⟩ := hcs
      exact ⟨zs, .inr ⟨_, rfl, hl, hm, by simpa using hz, hcell, hwz⟩⟩
  clear hA0 hval0
  refine (walk a0 len0 cap0 z0 W w0).mono fun e W' ⟨he, bel⟩ => ?_
  subst he
  exact ⟨_, rfl, _, _, _, [], _, [], hW', trodAll_mk1 (shut_bool Try.underlying4 _), (trodAll_cons_mk (Below.trod laidOut (by kernel_rfl) (of_decide_eq_true (by kernel_rfl)) k0 bel lt0) trodAll_mk0), rfl, bel.frame _, fun h => by cases h⟩

theorem over : Rows.fnNulStringSplitsAtNulsRow.holds Try.pinned (OpenSpec.ofChange Rows.fnNulStringSplitsAtNulsSpec) :=
  OpenClaim.holds_of_wide 9 Try.f9 rfl rfl rfl rfl rfl rfl rfl ⟨rfl, rfl, rfl, rfl, rfl⟩ rfl rfl rfl rfl rfl (by kernel_rfl) Try.func9 (by kernel_rfl)
    (of_decide_eq_true (by kernel_rfl)) (by unfold Func.isWrapper; first | (rw [if_pos (by decide +kernel)]; kernel_rfl) | (rw [if_neg (by decide +kernel)]; exact ⟨rfl, rfl⟩))
    (fun os started H enc _ => lifted os started H enc)

/-- ████ THE STATEMENT ████ -/
theorem proved : Rows.FnNulStringSplitsAtNulsSaid := over
end Go.Proofs.Qxb6001749a.fnNulStringSplitsAtNuls
