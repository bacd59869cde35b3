/-
  'Rows.FnTakeSplitsSaid', PROVED. The frame is the seed's shell (proof-skeleton.mjs); the walk is out of the contracts of WalkA to WalkG.
-/
import Derived.Test.Qxb6001749aRows
import Derived.Test.Qxb6001749aWalkG
import Derived.WalkKit
import Derived.ProofKit
import Derived.OpenShut
import Derived.ShutString
import Derived.ChangeOld
import Derived.Below
namespace Go.Proofs.Qxb6001749a.fnTakeSplits
open Go.ChangeShapes Go.WideShapes Go.ChangeAt Go.RowKit
open Go.ChangeMaps (open_string shut_string)
set_option linter.unusedVariables false

theorem own : ownKnob Try.prog.godebug = none := by kernel_rfl
theorem laidOut : laidOutB Try.prog = true := by kernel_rfl


theorem wide {w : World} {ao : Option Addr} {n c : Nat} (x y : Int) (hn : 1048576 < n) :
    Calls Try.prog 7 #[.slice ao n c, .int .i64 x, .int .i64 y] w fun e w' => e = .returned (.bool true) ∧ Below w.heap.size w w' := by
  go_enter Try.func7, Try.ntmps7
  go_wp2_with fail
  refine (bytes23_no ao n c x y w hn).mono ?_
  rintro e w0 ⟨rfl, rfl⟩
  go_wp2
  go_ret
  exact ⟨rfl, Below.refl _ _⟩

/-- One of the two counts is out of the law's range. -/
theorem out_of {w : World} {ao : Option Addr} {n c : Nat} (x y : Int) (hn : n ≤ 1048576) (h : x < 0 ∨ y < 0 ∨ 536870912 < x ∨ 536870912 < y) :
    Calls Try.prog 7 #[.slice ao n c, .int .i64 x, .int .i64 y] w fun e w' => e = .returned (.bool true) ∧ Below w.heap.size w w' := by
  by_cases h1 : x < 0
  · clear h
    go_enter Try.func7, Try.ntmps7
    go_wp2_with fail
    refine (bytes23_yes ao n c x y w hn).mono ?_
    rintro e w0 ⟨rfl, rfl⟩
    go_wp2
    go_ret
    exact ⟨rfl, Below.refl _ _⟩
  · by_cases h2 : y < 0
    · clear h
      go_enter Try.func7, Try.ntmps7
      go_wp2_with fail
      refine (bytes23_yes ao n c x y w hn).mono ?_
      rintro e w0 ⟨rfl, rfl⟩
      go_wp2
      go_ret
      exact ⟨rfl, Below.refl _ _⟩
    · by_cases h3 : 536870912 < x
      · clear h
        go_enter Try.func7, Try.ntmps7
        go_wp2_with fail
        refine (bytes23_yes ao n c x y w hn).mono ?_
        rintro e w0 ⟨rfl, rfl⟩
        go_wp2
        go_ret
        exact ⟨rfl, Below.refl _ _⟩
      · have h4 : 536870912 < y := by omega
        clear h
        go_enter Try.func7, Try.ntmps7
        go_wp2_with fail
        refine (bytes23_yes ao n c x y w hn).mono ?_
        rintro e w0 ⟨rfl, rfl⟩
        go_wp2
        go_ret
        exact ⟨rfl, Below.refl _ _⟩

/-- The first take is refused already. -/
theorem bad_first_pos {w : World} {ao : Option Addr} {n c : Nat} {l : List Int} (x y : Int) (h : Arg w ao n l) (hn : n ≤ 1048576) (hx : 0 ≤ x) (hx' : x ≤ 536870912) (hy : 0 ≤ y) (hy' : y ≤ 536870912) (h1 : (n : Int) < x) (h2 : 0 < y) :
    Calls Try.prog 7 #[.slice ao n c, .int .i64 x, .int .i64 y] w fun e w' => e = .returned (.bool true) ∧ Below w.heap.size w w' := by
  have q22 := eq22
  have hl := h.1
  have hx0 : ¬ x < 0 := by omega
  have hy0 : ¬ y < 0 := by omega
  go_enter Try.func7, Try.ntmps7
  go_wp2_with fail
  refine (bytes23_yes ao n c x y w hn).mono ?_
  rintro e w0 ⟨rfl, rfl⟩
  go_wp2_with fail
  refine (clone_split h hn).mono ?_
  rintro e w1 ⟨a1, c1, b, rfl, v1, hs, hb, g1⟩
  have B1 := bel_start g1
  clear hs hb
  go_wp2_with fail
  refine (reader_only).mono ?_
  rintro e w2 ⟨R, rfl, r2, hR, g2⟩
  have B2 := bel_none B1 g2
  have hR' : w0.heap.size ≤ R := by rw [hR]; exact B1.size
  clear hR g1 g2 v1
  go_wp2_with fail
  refine (zztake_bad r2 _ (by omega)).mono ?_
  rintro e w3 ⟨rfl, r3, g3⟩
  have B3 := bel_some B2 g3 hR'
  clear r2 g3
  go_wp2_with fail
  refine (zztake_bad r3 _ (by omega)).mono ?_
  rintro e w4 ⟨rfl, r4, g4⟩
  have B4 := bel_some B3 g4 hR'
  clear r3 g4
  -- the second reader: the whole count at once: refused too
  go_wp2_with fail
  refine (reader_only).mono ?_
  rintro e w5 ⟨R2, rfl, r5, hR2, g5⟩
  have B5 := bel_none B4 g5
  have hR2' : w0.heap.size ≤ R2 := by rw [hR2]; exact B4.size
  have r4' := r4.kept g5 (by simp)
  have hne : R ≠ R2 := by have := r4.lt; omega
  clear hR2 g5 r4
  go_wp2_with fail
  refine (zztake_bad r5 _ (by omega)).mono ?_
  rintro e w6 ⟨rfl, r6, g6⟩
  have B6 := bel_some B5 g6 hR2'
  have r6' := r4'.kept g6 (by simpa using hne)
  clear r5 g6 r4'
  go_wp2_with fail
  refine (bad_any r6').mono ?_
  rintro e w7 ⟨rfl, rfl⟩
  go_wp2_with fail
  refine (bad_any r6).mono ?_
  rintro e w8 ⟨rfl, rfl⟩
  go_wp2_with fail
  refine (bad_any r6').mono ?_
  rintro e w9 ⟨rfl, rfl⟩
  go_wp2_with fail
  refine (rest_any r6').mono ?_
  rintro e w10 ⟨rfl, rfl⟩
  go_wp2_with fail
  refine (rest_any r6).mono ?_
  rintro e w11 ⟨rfl, rfl⟩
  go_wp2
  go_ret
  exact ⟨rfl, B6⟩

/-- The first take is refused already. -/
theorem bad_first_zero {w : World} {ao : Option Addr} {n c : Nat} {l : List Int} (x y : Int) (h : Arg w ao n l) (hn : n ≤ 1048576) (hx : 0 ≤ x) (hx' : x ≤ 536870912) (hy : 0 ≤ y) (hy' : y ≤ 536870912) (h1 : (n : Int) < x) (h2 : y = 0) :
    Calls Try.prog 7 #[.slice ao n c, .int .i64 x, .int .i64 y] w fun e w' => e = .returned (.bool true) ∧ Below w.heap.size w w' := by
  subst h2
  have q22 := eq22
  have hl := h.1
  have hx0 : ¬ x < 0 := by omega
  go_enter Try.func7, Try.ntmps7
  go_wp2_with fail
  refine (bytes23_yes ao n c x 0 w hn).mono ?_
  rintro e w0 ⟨rfl, rfl⟩
  go_wp2_with fail
  refine (clone_split h hn).mono ?_
  rintro e w1 ⟨a1, c1, b, rfl, v1, hs, hb, g1⟩
  have B1 := bel_start g1
  clear hs hb
  go_wp2_with fail
  refine (reader_only).mono ?_
  rintro e w2 ⟨R, rfl, r2, hR, g2⟩
  have B2 := bel_none B1 g2
  have hR' : w0.heap.size ≤ R := by rw [hR]; exact B1.size
  clear hR g1 g2 v1
  go_wp2_with fail
  refine (zztake_bad r2 _ (by omega)).mono ?_
  rintro e w3 ⟨rfl, r3, g3⟩
  have B3 := bel_some B2 g3 hR'
  clear r2 g3
  go_wp2_with fail
  refine (zztake_at r3 (View.nil _ (R + 1)) rfl (by omega) 0 0 rfl (Nat.le_refl _)).mono ?_
  rintro e w4 ⟨rfl, a4, r4, _, _, g4⟩
  have B4 := bel_some B3 g4 hR'
  clear r3 g4
  -- the second reader: the whole count at once: refused too
  go_wp2_with fail
  refine (reader_only).mono ?_
  rintro e w5 ⟨R2, rfl, r5, hR2, g5⟩
  have B5 := bel_none B4 g5
  have hR2' : w0.heap.size ≤ R2 := by rw [hR2]; exact B4.size
  have r4' := r4.kept g5 (by simp)
  have hne : R ≠ R2 := by have := r4.lt; omega
  clear hR2 g5 r4
  go_wp2_with fail
  refine (zztake_bad r5 _ (by omega)).mono ?_
  rintro e w6 ⟨rfl, r6, g6⟩
  have B6 := bel_some B5 g6 hR2'
  have r6' := r4'.kept g6 (by simpa using hne)
  clear r5 g6 r4'
  go_wp2_with fail
  refine (bad_any r6').mono ?_
  rintro e w7 ⟨rfl, rfl⟩
  go_wp2_with fail
  refine (bad_any r6).mono ?_
  rintro e w8 ⟨rfl, rfl⟩
  go_wp2_with fail
  refine (bad_any r6').mono ?_
  rintro e w9 ⟨rfl, rfl⟩
  go_wp2_with fail
  refine (rest_any r6').mono ?_
  rintro e w10 ⟨rfl, rfl⟩
  go_wp2_with fail
  refine (rest_any r6).mono ?_
  rintro e w11 ⟨rfl, rfl⟩
  go_wp2
  go_ret
  exact ⟨rfl, B6⟩

/-- The first take is granted, the second refused. -/
theorem bad_second {w : World} {ao : Option Addr} {n c : Nat} {l : List Int} (x y : Int) (h : Arg w ao n l) (hn : n ≤ 1048576) (hx : 0 ≤ x) (hx' : x ≤ 536870912) (hy : 0 ≤ y) (hy' : y ≤ 536870912) (h1 : x ≤ (n : Int)) (h2 : (n : Int) < x + y) :
    Calls Try.prog 7 #[.slice ao n c, .int .i64 x, .int .i64 y] w fun e w' => e = .returned (.bool true) ∧ Below w.heap.size w w' := by
  obtain ⟨k, rfl⟩ := Int.eq_ofNat_of_zero_le hx
  have q22 := eq22
  have hl := h.1
  have hx0 : ¬ (k : Int) < 0 := by omega
  have hy0 : ¬ y < 0 := by omega
  go_enter Try.func7, Try.ntmps7
  go_wp2_with fail
  refine (bytes23_yes ao n c k y w hn).mono ?_
  rintro e w0 ⟨rfl, rfl⟩
  go_wp2_with fail
  refine (clone_split h hn).mono ?_
  rintro e w1 ⟨a1, c1, b, rfl, v1, hs, hb, g1⟩
  have B1 := bel_start g1
  have hbs : b ≠ w1.heap.size ∨ l = [] := by rcases hs with ⟨_, _, h⟩ | ⟨_, h, _⟩; exact .inr h; exact .inl (by omega)
  have hv : ∃ b', b' ≠ w1.heap.size ∧ View w1 b' a1 c1 l := by
    rcases hs with ⟨rfl, rfl, rfl⟩ | ⟨_, h, _⟩
    · exact ⟨w1.heap.size + 1, by omega, View.nil _ _⟩
    · exact ⟨b, by omega, v1⟩
  obtain ⟨b', hb', v1'⟩ := hv
  clear hs hb v1 hbs
  go_wp2_with fail
  refine (reader_view v1' hb').mono ?_
  rintro e w2 ⟨R, rfl, r2, v2, hbR, hR, g2⟩
  have B2 := bel_none B1 g2
  have hR' : w0.heap.size ≤ R := Nat.le_trans B1.size hR
  clear hR g1 g2 v1'
  go_wp2_with fail
  refine (zztake_at r2 v2 hl hbR _ k rfl (by omega)).mono ?_
  rintro e w3 ⟨rfl, a3, r3, _, _, g3⟩
  have B3 := bel_some B2 g3 hR'
  clear r2 g3 v2
  go_wp2_with fail
  refine (zztake_bad r3 _ (by omega)).mono ?_
  rintro e w4 ⟨rfl, r4, g4⟩
  have B4 := bel_some B3 g4 hR'
  clear r3 g4
  -- the second reader: the whole count at once: refused too
  go_wp2_with fail
  refine (reader_only).mono ?_
  rintro e w5 ⟨R2, rfl, r5, hR2, g5⟩
  have B5 := bel_none B4 g5
  have hR2' : w0.heap.size ≤ R2 := by rw [hR2]; exact B4.size
  have r4' := r4.kept g5 (by simp)
  have hne : R ≠ R2 := by have := r4.lt; omega
  clear hR2 g5 r4
  go_wp2_with fail
  refine (zztake_bad r5 _ (by omega)).mono ?_
  rintro e w6 ⟨rfl, r6, g6⟩
  have B6 := bel_some B5 g6 hR2'
  have r6' := r4'.kept g6 (by simpa using hne)
  clear r5 g6 r4'
  go_wp2_with fail
  refine (bad_any r6').mono ?_
  rintro e w7 ⟨rfl, rfl⟩
  go_wp2_with fail
  refine (bad_any r6).mono ?_
  rintro e w8 ⟨rfl, rfl⟩
  go_wp2_with fail
  refine (bad_any r6').mono ?_
  rintro e w9 ⟨rfl, rfl⟩
  go_wp2_with fail
  refine (rest_any r6').mono ?_
  rintro e w10 ⟨rfl, rfl⟩
  go_wp2_with fail
  refine (rest_any r6).mono ?_
  rintro e w11 ⟨rfl, rfl⟩
  go_wp2
  go_ret
  exact ⟨rfl, B6⟩

/-- Both takes are granted, and the first does not take all. -/
theorem granted_part {w : World} {ao : Option Addr} {n c : Nat} {l : List Int} (k m : Nat) (h : Arg w ao n l) (hn : n ≤ 1048576) (hkm : k + m ≤ n) (hkn : k < n) (hm' : (m : Int) ≤ 1048576) :
    Calls Try.prog 7 #[.slice ao n c, .int .i64 k, .int .i64 m] w fun e w' => e = .returned (.bool true) ∧ Below w.heap.size w w' := by
  have hkn' : ¬ n = k := by omega
  have q22 := eq22
  have hl := h.1
  have hx0 : ¬ (k : Int) < 0 := by omega
  have hy0 : ¬ (m : Int) < 0 := by omega
  go_enter Try.func7, Try.ntmps7
  go_wp2_with fail
  refine (bytes23_yes ao n c k m w hn).mono ?_
  rintro e w0 ⟨rfl, rfl⟩
  go_wp2_with fail
  refine (clone_split h hn).mono ?_
  rintro e w1 ⟨a1, c1, b, rfl, v1, hs, hb, g1⟩
  have B1 := bel_start g1
  rcases hs with ⟨_, _, rfl⟩ | ⟨rfl, hbl, rfl⟩
  · simp at hl; omega
  go_wp2_with fail
  refine (reader_view v1 (by omega)).mono ?_
  rintro e w2 ⟨R, rfl, r2, v2, hbR, hR, g2⟩
  have B2 := bel_none B1 g2
  have hR' : w0.heap.size ≤ R := Nat.le_trans B1.size hR
  have hz2 := g2.size
  go_wp2_with fail
  refine (zztake_at r2 v2 hl hbR _ k rfl (by omega)).mono ?_
  rintro e w3 ⟨rfl, a3, r3, f3, v3, g3⟩
  have B3 := bel_some B2 g3 hR'
  have p3 := v2.kept g3 (by simpa using hbR)
  clear r2 v2 v1 hR g1 g2
  go_wp2_with fail
  refine (zztake_at r3 v3 (by simp [hl]) hbR _ m rfl (by omega)).mono ?_
  rintro e w4 ⟨rfl, a4, r4, f4, v4, g4⟩
  have B4 := bel_some B3 g4 hR'
  have p4 := p3.kept g4 (by simpa using hbR)
  have f3' := f3.kept g4 (by simpa using hbR)
  have hRl := r4.lt
  clear r3 v3 p3 f3
  go_wp2_with fail
  refine (reader_view p4 (by have := g3.size; have := g4.size; omega)).mono ?_
  rintro e w5 ⟨R2, rfl, r5, v5, hbR2, hR2, g5⟩
  have B5 := bel_none B4 g5
  have hR2' : w0.heap.size ≤ R2 := Nat.le_trans B4.size hR2
  have r4' := r4.kept g5 (by simp)
  have hne : some R ≠ some R2 := by simp; omega
  have hbne : some b ≠ some R2 := by simpa using hbR2
  have f3'' := f3'.kept g5 (by simp)
  have f4' := f4.kept g5 (by simp)
  have v4' := v4.kept g5 (by simp)
  clear r4 f3' f4 v4 p4 g3 g4 g5
  go_wp2_with fail
  refine (zztake_at r5 v5 hl hbR2 _ (k + m) (by omega) (by omega)).mono ?_
  rintro e w6 ⟨rfl, a6, r6, f6, v6, g6⟩
  have B6 := bel_some B5 g6 hR2'
  have r6' := r4'.kept g6 hne
  have F3 := f3''.kept g6 hbne
  have F4 := f4'.kept g6 hbne
  have V4 := v4'.kept g6 hbne
  clear r5 v5 f3'' f4' v4' r4' g6
  go_wp2_with fail
  refine (bad_any r6').mono ?_
  rintro e w7 ⟨rfl, rfl⟩
  go_wp2_with fail
  refine (bad_any r6).mono ?_
  rintro e w8 ⟨rfl, rfl⟩
  go_wp2_with fail
  refine (bad_any r6').mono ?_
  rintro e w9 ⟨rfl, rfl⟩
  have G : View w9 b (some ⟨b, k, none⟩) (n - k) ((l.take (k + m)).drop k) := by have := f6.back k (by simp; omega); rw [if_neg (by omega), Nat.zero_add] at this; exact this
  go_wp2_with fail
  refine (equal_any (f6.front k) F3 (by simp; omega) (by simp; omega)).mono ?_
  rintro e w10 ⟨rfl, q1, rfl⟩
  have e1 : decide ((l.take (k + m)).take k = l.take k) = true := decide_eq_true (by rw [List.take_take, Nat.min_eq_left (by omega)])
  rw [e1]
  clear e1
  go_wp2_with fail
  refine (equal_any (G.drewN q1) (F4.drewN q1) (by first | (simp; done) | (simp; omega)) (by first | (simp; done) | (simp; omega))).mono ?_
  rintro e w11 ⟨rfl, q2, rfl⟩
  have e2 : decide ((l.take (k + m)).drop k = (l.drop k).take m) = true := decide_eq_true (by rw [List.drop_take, Nat.add_sub_cancel_left])
  rw [e2]
  clear e2
  go_wp2_with fail
  refine (rest_any (r6'.drewN (q1 + q2))).mono ?_
  rintro e w12 ⟨rfl, rfl⟩
  go_wp2_with fail
  refine (rest_any (r6.drewN (q1 + q2))).mono ?_
  rintro e w13 ⟨rfl, rfl⟩
  go_wp2_with fail
  refine (equal_any (V4.drewN (q1 + q2)) (v6.drewN (q1 + q2)) (by first | (simp; done) | (simp; omega)) (by first | (simp; done) | (simp; omega))).mono ?_
  rintro e w14 ⟨rfl, q3, rfl⟩
  have e3 : decide ((l.drop k).drop m = l.drop (k + m)) = true := decide_eq_true (by rw [List.drop_drop])
  rw [e3]
  clear e3
  go_wp2
  go_ret
  exact ⟨rfl, below_drewN B6 _⟩

/-- The first take takes all. -/
theorem granted_all {w : World} {ao : Option Addr} {k c : Nat} {l : List Int} (h : Arg w ao k l) (hn : k ≤ 1048576) :
    Calls Try.prog 7 #[.slice ao k c, .int .i64 k, .int .i64 0] w fun e w' => e = .returned (.bool true) ∧ Below w.heap.size w w' := by
  have q22 := eq22
  have hl := h.1
  have hx0 : ¬ (k : Int) < 0 := by omega
  go_enter Try.func7, Try.ntmps7
  go_wp2_with fail
  refine (bytes23_yes ao k c k 0 w hn).mono ?_
  rintro e w0 ⟨rfl, rfl⟩
  go_wp2_with fail
  refine (clone_split h hn).mono ?_
  rintro e w1 ⟨a1, c1, b, rfl, v1, hs, hb, g1⟩
  have B1 := bel_start g1
  rcases hs with ⟨rfl, rfl, rfl⟩ | ⟨rfl, hbl, rfl⟩
  · obtain rfl : k = 0 := by simpa using hl.symm
    clear hb v1
    go_wp2_with fail
    refine (reader_only).mono ?_
    rintro e w2 ⟨R, rfl, r2, hR, g2⟩
    have B2 := bel_none B1 g2
    have hR' : w0.heap.size ≤ R := by rw [hR]; exact B1.size
    clear hR g1 g2
    go_wp2_with fail
    refine (zztake_at r2 (View.nil _ (R + 1)) rfl (by omega) _ 0 rfl (Nat.le_refl _)).mono ?_
    rintro e w3 ⟨rfl, a3, r3, f3, v3, g3⟩
    have B3 := bel_some B2 g3 hR'
    clear r2 g3 f3
    go_wp2_with fail
    refine (zztake_at r3 v3 rfl (by omega) _ 0 rfl (Nat.le_refl _)).mono ?_
    rintro e w4 ⟨rfl, a4, r4, f4, v4, g4⟩
    have B4 := bel_some B3 g4 hR'
    have hRl := r4.lt
    clear r3 g4 v3
    go_wp2_with fail
    refine (reader_only).mono ?_
    rintro e w5 ⟨R2, rfl, r5, hR2, g5⟩
    have B5 := bel_none B4 g5
    have hR2' : w0.heap.size ≤ R2 := by rw [hR2]; exact B4.size
    have hne : some R ≠ some R2 := by simp; omega
    have r5' := r4.kept g5 (by simp)
    clear hR2 g5 r4
    go_wp2_with fail
    refine (zztake_at r5 (View.nil _ (R2 + 1)) rfl (by omega) _ 0 rfl (Nat.le_refl _)).mono ?_
    rintro e w6 ⟨rfl, a6, r6, f6, v6, g6⟩
    have B6 := bel_some B5 g6 hR2'
    have r6' := r5'.kept g6 hne
    clear r5 r5' g6 f6
    go_wp2_with fail
    refine (bad_any r6').mono ?_
    rintro e w7 ⟨rfl, rfl⟩
    go_wp2_with fail
    refine (bad_any r6).mono ?_
    rintro e w8 ⟨rfl, rfl⟩
    go_wp2_with fail
    refine (bad_any r6').mono ?_
    rintro e w9 ⟨rfl, rfl⟩
    go_wp2_with fail
    refine (equal_nil _ _ _ _ _).mono ?_
    rintro e w10 ⟨rfl, rfl⟩
    go_wp2_with fail
    refine (equal_nil _ _ _ _ _).mono ?_
    rintro e w11 ⟨rfl, rfl⟩
    go_wp2_with fail
    refine (rest_any r6').mono ?_
    rintro e w12 ⟨rfl, rfl⟩
    go_wp2_with fail
    refine (rest_any r6).mono ?_
    rintro e w13 ⟨rfl, rfl⟩
    go_wp2_with fail
    refine (equal_nil _ _ _ _ _).mono ?_
    rintro e w14 ⟨rfl, rfl⟩
    go_wp2
    go_ret
    exact ⟨rfl, B6⟩
  go_wp2_with fail
  refine (reader_view v1 (by omega)).mono ?_
  rintro e w2 ⟨R, rfl, r2, v2, hbR, hR, g2⟩
  have B2 := bel_none B1 g2
  have hR' : w0.heap.size ≤ R := Nat.le_trans B1.size hR
  have hz2 := g2.size
  go_wp2_with fail
  refine (zztake_at r2 v2 hl hbR _ k rfl (by omega)).mono ?_
  rintro e w3 ⟨rfl, a3, r3, f3, v3, g3⟩
  rw [Nat.sub_self] at r3 v3
  have B3 := bel_some B2 g3 hR'
  have p3 := v2.kept g3 (by simpa using hbR)
  clear r2 v2 v1 hR g1 g2
  go_wp2_with fail
  refine (zztake_at r3 v3 (by simp [hl]) hbR _ 0 rfl (by omega)).mono ?_
  rintro e w4 ⟨rfl, a4, r4, f4, v4, g4⟩
  rw [Nat.sub_self] at r4 v4
  have B4 := bel_some B3 g4 hR'
  have p4 := p3.kept g4 (by simpa using hbR)
  have f3' := f3.kept g4 (by simpa using hbR)
  have hRl := r4.lt
  clear r3 v3 p3 f3
  go_wp2_with fail
  refine (reader_view p4 (by have := g3.size; have := g4.size; omega)).mono ?_
  rintro e w5 ⟨R2, rfl, r5, v5, hbR2, hR2, g5⟩
  have B5 := bel_none B4 g5
  have hR2' : w0.heap.size ≤ R2 := Nat.le_trans B4.size hR2
  have r4' := r4.kept g5 (by simp)
  have hne : some R ≠ some R2 := by simp; omega
  have hbne : some b ≠ some R2 := by simpa using hbR2
  have f3'' := f3'.kept g5 (by simp)
  have f4' := f4.kept g5 (by simp)
  have v4' := v4.kept g5 (by simp)
  clear r4 f3' f4 v4 p4 g3 g4 g5
  go_wp2_with fail
  refine (zztake_at r5 v5 hl hbR2 _ k rfl (by omega)).mono ?_
  rintro e w6 ⟨rfl, a6, r6, f6, v6, g6⟩
  rw [Nat.sub_self] at r6 v6
  have B6 := bel_some B5 g6 hR2'
  have r6' := r4'.kept g6 hne
  have F3 := f3''.kept g6 hbne
  have F4 := f4'.kept g6 hbne
  have V4 := v4'.kept g6 hbne
  clear r5 v5 f3'' f4' v4' r4' g6
  go_wp2_with fail
  refine (bad_any r6').mono ?_
  rintro e w7 ⟨rfl, rfl⟩
  go_wp2_with fail
  refine (bad_any r6).mono ?_
  rintro e w8 ⟨rfl, rfl⟩
  go_wp2_with fail
  refine (bad_any r6').mono ?_
  rintro e w9 ⟨rfl, rfl⟩
  have G : View w9 b (some ⟨b, 0, none⟩) 0 ((l.take k).drop k) := by have := f6.back k (by simp; omega); rw [if_pos rfl, Nat.sub_self] at this; exact this
  go_wp2_with fail
  refine (equal_any (f6.front k) F3 (by simp; omega) (by simp; omega)).mono ?_
  rintro e w10 ⟨rfl, q1, rfl⟩
  have e1 : decide ((l.take k).take k = l.take k) = true := decide_eq_true (by rw [List.take_take, Nat.min_self])
  rw [e1]
  clear e1
  go_wp2_with fail
  refine (equal_any (G.drewN q1) (F4.drewN q1) (by first | (simp; done) | (simp; omega)) (by first | (simp; done) | (simp; omega))).mono ?_
  rintro e w11 ⟨rfl, q2, rfl⟩
  have e2 : decide ((l.take k).drop k = (l.drop k).take 0) = true := decide_eq_true (by rw [List.drop_take, Nat.sub_self])
  rw [e2]
  clear e2
  go_wp2_with fail
  refine (rest_any (r6'.drewN (q1 + q2))).mono ?_
  rintro e w12 ⟨rfl, rfl⟩
  go_wp2_with fail
  refine (rest_any (r6.drewN (q1 + q2))).mono ?_
  rintro e w13 ⟨rfl, rfl⟩
  go_wp2_with fail
  refine (equal_any (V4.drewN (q1 + q2)) (v6.drewN (q1 + q2)) (by first | (simp; done) | (simp; omega)) (by first | (simp; done) | (simp; omega))).mono ?_
  rintro e w14 ⟨rfl, q3, rfl⟩
  have e3 : decide ((l.drop k).drop 0 = l.drop k) = true := decide_eq_true (by rfl)
  rw [e3]
  clear e3
  go_wp2
  go_ret
  exact ⟨rfl, below_drewN B6 _⟩

theorem granted {w : World} {ao : Option Addr} {n c : Nat} {l : List Int} (k m : Nat) (h : Arg w ao n l) (hn : n ≤ 1048576) (hkm : k + m ≤ n) :
    Calls Try.prog 7 #[.slice ao n c, .int .i64 k, .int .i64 m] w fun e w' => e = .returned (.bool true) ∧ Below w.heap.size w w' := by
  by_cases h1 : k < n
  · exact granted_part k m h hn hkm h1 (by omega)
  · obtain rfl : k = n := by omega
    obtain rfl : m = 0 := by omega
    exact granted_all h hn

theorem walk (a0 : Option Addr) (len0 cap0 : Nat) (z0 : List Int) (a1 : Int) (a2 : Int) (w : World) (w0 : IsRow .u8 w a0 len0 cap0 z0) (w1 : (Lit.int .i64 a1).wf = true) (w2 : (Lit.int .i64 a2).wf = true) :
    Calls Try.prog 7 #[.slice a0 len0 cap0, .int .i64 a1, .int .i64 a2] w fun e w' => e = .returned (.bool true) ∧ Below w.heap.size w w' := by
  obtain ⟨ha, _, _⟩ := w0.arg
  by_cases hn : 1048576 < len0
  · exact wide a1 a2 hn
  · have hn' : len0 ≤ 1048576 := by omega
    by_cases ho : a1 < 0 ∨ a2 < 0 ∨ 536870912 < a1 ∨ 536870912 < a2
    · exact out_of a1 a2 hn' ho
    · have e1 : 0 ≤ a1 := by omega
      have e2 : a1 ≤ 536870912 := by omega
      have e3 : 0 ≤ a2 := by omega
      have e4 : a2 ≤ 536870912 := by omega
      by_cases h1 : (len0 : Int) < a1
      · by_cases h2 : a2 = 0
        · exact bad_first_zero a1 a2 ha hn' e1 e2 e3 e4 h1 h2
        · exact bad_first_pos a1 a2 ha hn' e1 e2 e3 e4 h1 (by omega)
      · by_cases h2 : (len0 : Int) < a1 + a2
        · exact bad_second a1 a2 ha hn' e1 e2 e3 e4 (by omega) h2
        · obtain ⟨k, rfl⟩ := Int.eq_ofNat_of_zero_le e1
          obtain ⟨m, rfl⟩ := Int.eq_ofNat_of_zero_le e3
          exact granted k m ha hn' (by omega)

/-! ### THE ROW's STEP: WRITTEN OUT: LEAVE IT -/
set_option maxRecDepth 100000 in
theorem lifted (os : Os) (started : os.Started) (H : Type) (enc : TypeId × Value → H) :
    ReturnsInHanded {} Try.checked os 7 .any (Rows.fnTakeSplitsSpec.pre6 enc Try.prog Try.f7 Rows.fnTakeSplitsRow.domain false) (Rows.fnTakeSplitsSpec.post enc Try.prog Try.f7 false true false false) := by
  refine returnsInHanded_of_change (C := Try.checked) own started (by kernel_rfl) Try.func7
    (ChangeSpec.witness6 (enc := enc) (C := Try.checked) false ⟨#[], #[.slice none 0 0, .int .i64 0, .int .i64 0], []⟩ 8 (by kernel_rfl) (by kernel_rfl) (by kernel_rfl) (by kernel_rfl)) ?_
  intro W base args ds gs before hval0 hW hcnd _
  have hval : ∀ (j : Nat) t v, Try.f7.params[j]? = some t → args[j]? = some v → Value.okWide Try.prog W .any base t v := hval0
  have hW' := hW
  obtain ⟨p, q, hA0, hV, rfl, hfz, hnd⟩ := hW
  have hA : DataW.TrodAll enc Try.prog W 0 (fun _ => true) true Try.f7.params.toList args.toList ds p := hA0
  rw [Try.params7] at hA hval
  obtain ⟨v0, vs0, d0, ds0, p0, q0, hargs, rfl, rfl, h0, r0⟩ := trodAll_cons hA
  obtain ⟨v1, vs1, d1, ds1, p1, q1, rfl, rfl, rfl, h1, r1⟩ := trodAll_cons r0
  obtain ⟨v2, vs2, d2, ds2, p2, q2, rfl, rfl, rfl, h2, r2⟩ := trodAll_cons r1
  obtain ⟨rfl, rfl, rfl⟩ := trodAll_nil r2
  obtain rfl : args = #[v0, v1, v2] := by cases args; simp_all
  obtain ⟨rfl, rfl⟩ := trodVars_none hV
  obtain ⟨a0, len0, cap0, rfl⟩ := okWide_slice Try.underlying22 (hval 0 22 v0 rfl rfl)
  have k0 := h0
  have lt0 : ∀ x ∈ p0, x.block < W.heap.size := by obtain ⟨m, hm⟩ := k0; exact DataW.trod_lt m _ _ _ hm
  obtain ⟨z0, w0⟩ : ∃ zs, IsRow .u8 W a0 len0 cap0 zs := by
    obtain ⟨fuel, hf⟩ := h0
    rcases open_ints Try.underlying22 Try.underlying5 (by kernel_rfl) hf with ⟨hcs, _⟩ | ⟨x, l, c, zs, hcs, _, hl, hm, hz, _, hcell, hwz⟩
    · simp [Value.cells] at hcs
      obtain ⟨rfl, rfl, rfl⟩ := hcs
      exact ⟨[], .inl ⟨rfl, rfl, rfl, rfl⟩⟩
    · simp [Value.cells] at hcs
      obtain ⟨rfl, rfl, rfl⟩ := hcs
      exact ⟨zs, .inr ⟨_, rfl, hl, hm, by simpa using hz, hcell, hwz⟩⟩
  obtain ⟨a1, rfl, rfl, rfl, w1⟩ := open_int Try.underlying3 (hval 1 3 v1 rfl rfl) h1
  obtain ⟨a2, rfl, rfl, rfl, w2⟩ := open_int Try.underlying3 (hval 2 3 v2 rfl rfl) h2
  clear hA0 hval0
  refine (walk a0 len0 cap0 z0 a1 a2 W w0 w1 w2).mono fun e W' ⟨he, bel⟩ => ?_
  subst he
  exact ⟨_, rfl, _, _, _, [], _, [], hW', trodAll_mk1 (shut_bool Try.underlying4 _), (trodAll_cons_mk (Below.trod laidOut (by kernel_rfl) (of_decide_eq_true (by kernel_rfl)) k0 bel lt0) (trodAll_cons_mk (shut_int Try.underlying3 w1) (trodAll_cons_mk (shut_int Try.underlying3 w2) trodAll_mk0))), rfl, bel.frame _, fun h => by cases h⟩

theorem over : Rows.fnTakeSplitsRow.holds Try.pinned (OpenSpec.ofChange Rows.fnTakeSplitsSpec) :=
  OpenClaim.holds_of_wide 7 Try.f7 rfl rfl rfl rfl rfl rfl rfl ⟨rfl, rfl, rfl, rfl, rfl⟩ rfl rfl rfl rfl rfl (by kernel_rfl) Try.func7 (by kernel_rfl)
    (of_decide_eq_true (by kernel_rfl)) (by unfold Func.isWrapper; first | (rw [if_pos (by decide +kernel)]; kernel_rfl) | (rw [if_neg (by decide +kernel)]; exact ⟨rfl, rfl⟩))
    (fun os started H enc _ => lifted os started H enc)

/-- ████ THE STATEMENT ████ -/
theorem proved : Rows.FnTakeSplitsSaid := over
end Go.Proofs.Qxb6001749a.fnTakeSplits
