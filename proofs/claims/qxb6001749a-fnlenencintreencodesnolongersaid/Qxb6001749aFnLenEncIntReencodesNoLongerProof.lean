/-
  'Rows.FnLenEncIntReencodesNoLongerSaid', PROVED. The frame is the seed's shell (proof-skeleton.mjs); the walk is out of the contracts of WalkA to WalkG and WalkL.
-/
import Derived.Test.Qxb6001749aRows
import Derived.Test.Qxb6001749aWalkL
import Derived.WalkKit
import Derived.ProofKit
import Derived.OpenShut
import Derived.ShutString
import Derived.ChangeOld
import Derived.Below
namespace Go.Proofs.Qxb6001749a.fnLenEncIntReencodesNoLonger
open Go.ChangeShapes Go.WideShapes Go.ChangeAt Go.RowKit
open Go.ChangeMaps (open_string shut_string)
set_option linter.unusedVariables false

theorem own : ownKnob Try.prog.godebug = none := by kernel_rfl
theorem laidOut : laidOutB Try.prog = true := by kernel_rfl


theorem wide {w : World} {ao : Option Addr} {n c : Nat} (hn : 1048576 < n) :
    Calls Try.prog 5 #[.slice ao n c] w fun e w' => e = .returned (.bool true) ∧ Below w.heap.size w w' := by
  go_enter Try.func5, Try.ntmps5
  go_wp2_with fail
  refine (bytes20_no ao n c w hn).mono ?_
  rintro e w0 ⟨rfl, rfl⟩
  go_wp2
  go_ret
  exact ⟨rfl, Below.refl _ _⟩

theorem empty {w : World} {ao : Option Addr} {c : Nat} :
    Calls Try.prog 5 #[.slice ao 0 c] w fun e w' => e = .returned (.bool true) ∧ Below w.heap.size w w' := by
  go_enter Try.func5, Try.ntmps5
  go_wp2_with fail
  refine (bytes20_yes ao 0 c w (by omega)).mono ?_
  rintro e w0 ⟨rfl, rfl⟩
  go_wp2
  go_ret
  exact ⟨rfl, Below.refl _ _⟩

theorem headed {w : World} {b off n c : Nat} (x : Int) (hn : n ≤ 1048576) (h1 : 1 ≤ n) (hc : w.cell? ⟨b, off, none⟩ = some (.int .u8 x)) (hx : x = 251 ∨ x = 255) :
    Calls Try.prog 5 #[.slice (some ⟨b, off, none⟩) n c] w fun e w' => e = .returned (.bool true) ∧ Below w.heap.size w w' := by
  have hn0 : ((n : Int) == 0) = false := by simp; omega
  rcases hx with rfl | rfl
  all_goals
    go_enter Try.func5, Try.ntmps5
    go_wp2_with fail
    refine (bytes20_yes _ n c w hn).mono ?_
    rintro e w0 ⟨rfl, rfl⟩
    go_wp2
    go_ret
    exact ⟨rfl, Below.refl _ _⟩

theorem short {w : World} {b0 off0 n c : Nat} {l : List Int} (x : Int) (h : Arg w (some ⟨b0, off0, none⟩) n l) (hn : n ≤ 1048576) (h1 : 1 ≤ n) (hc : w.cell? ⟨b0, off0, none⟩ = some (.int .u8 x)) (k1 : (x == 251) = false) (k2 : (x == 255) = false) (hs : n < need l) :
    Calls Try.prog 5 #[.slice (some ⟨b0, off0, none⟩) n c] w fun e w' => e = .returned (.bool true) ∧ Below w.heap.size w w' := by
  have hn0 : ((n : Int) == 0) = false := by simp; omega
  have hl := hid h.1
  have hsh := hid hs
  clear hs
  go_enter Try.func5, Try.ntmps5
  go_wp2_with fail
  refine (bytes20_yes _ n c w hn).mono ?_
  rintro e w0 ⟨rfl, rfl⟩
  go_wp2_with fail
  refine (clone_split h hn).mono ?_
  rintro e w1 ⟨a1, c1, b, rfl, v1, hs, hb, g1⟩
  have B1 := bel_start g1
  clear h g1
  rcases hs with ⟨_, _, rfl⟩ | ⟨rfl, hbl, rfl⟩
  · have := hl.out; simp at this; omega
  go_wp2_with fail
  refine (reader_view v1 (by omega)).mono ?_
  rintro e w2 ⟨R, rfl, r2, v2, hbR, hR, g2⟩
  have B2 := bel_none B1 g2
  have hR' : w0.heap.size ≤ R := Nat.le_trans B1.size hR
  have hbl2 : b < w2.heap.size := Nat.lt_of_lt_of_le hbl g2.size
  clear v1 g2 B1 hbl hR
  go_wp2_with fail
  refine (zzlenEnc_short r2 v2 hl.out hbR hsh.out).mono ?_
  rintro e w3 ⟨rfl, r3, g3⟩
  have B3 := bel_some B2 g3 hR'
  go_wp2_with fail
  refine (bad_any r3).mono ?_
  rintro e w4 ⟨rfl, rfl⟩
  go_wp2
  go_ret
  exact ⟨rfl, B3⟩

set_option maxHeartbeats 800000 in
theorem read_1_same {w : World} {b0 off0 n c : Nat} {l : List Int} (x : Int) (h : Arg w (some ⟨b0, off0, none⟩) n l) (hn : n ≤ 1048576) (h1 : 1 ≤ n) (hc : w.cell? ⟨b0, off0, none⟩ = some (.int .u8 x)) (k1 : (x == 251) = false) (k2 : (x == 255) = false) (v : Int) (hval : Hid (val l = v)) (v0 : 0 ≤ v) (v1' : v < 18446744073709551616) (hneed : Hid (need l = 1)) (hT : 1 ≤ n) (nx : Nat) (hnx : Hid ((enc v).length = nx)) (hx : nx = 1) (heq : Hid (enc v = l.take 1)) (hby : ∀ x ∈ l, 0 ≤ x ∧ x ≤ 255) :
    Calls Try.prog 5 #[.slice (some ⟨b0, off0, none⟩) n c] w fun e w' => e = .returned (.bool true) ∧ Below w.heap.size w w' := by
  subst hx
  have hu : (n : Int) - ((n - 1 : Nat) : Int) = 1 := by omega
  have hx1 : 1 ≤ 1 := by have := (enc_pos v).1; rw [hnx.out] at this; exact this
  have hx9 : 1 ≤ 9 := by have := (enc_pos v).2; rw [hnx.out] at this; exact this
  have hn0 : ((n : Int) == 0) = false := by simp; omega
  have hl := hid h.1
  go_enter Try.func5, Try.ntmps5
  go_wp2_with fail
  refine (bytes20_yes _ n c w hn).mono ?_
  rintro e w0 ⟨rfl, rfl⟩
  go_wp2_with fail
  refine (clone_split h hn).mono ?_
  rintro e w1 ⟨a1, c1, b, rfl, v1, hs, hb, g1⟩
  have B1 := bel_start g1
  clear h g1
  rcases hs with ⟨_, _, rfl⟩ | ⟨rfl, hbl, rfl⟩
  · have := hl.out; simp at this; omega
  go_wp2_with fail
  refine (reader_view v1 (by omega)).mono ?_
  rintro e w2 ⟨R, rfl, r2, v2, hbR, hR, g2⟩
  have B2 := bel_none B1 g2
  have hR' : w0.heap.size ≤ R := Nat.le_trans B1.size hR
  have hbl2 : b < w2.heap.size := Nat.lt_of_lt_of_le hbl g2.size
  clear v1 g2 B1 hbl hR
  go_wp2_with fail
  refine (zzlenEnc_ok r2 v2 hl.out hbR (by rw [hneed.out]; exact hT) hby).mono ?_
  rintro e w3 ⟨rfl, a3, r3, v3, g3⟩
  rw [hval.out]
  rw [hneed.out] at r3 v3
  have B3 := bel_some B2 g3 hR'
  have p3 := v2.kept g3 (by simpa using hbR)
  have hbl3 : b < w3.heap.size := Nat.lt_of_lt_of_le hbl2 g3.size
  clear r2 v2 g3 B2
  go_wp2_with fail
  refine (bad_any r3).mono ?_
  rintro e w4 ⟨rfl, rfl⟩
  go_wp2_with fail
  refine (rest_any r3).mono ?_
  rintro e w5 ⟨rfl, rfl⟩
  go_wp2_with fail
  refine (suffix_any v3 p3 hl.out hT).mono ?_
  rintro e w6 ⟨rfl, q, hw6⟩
  have B6 : Below w0.heap.size w0 w6 := by rw [hw6]; exact below_drewN B3 q
  have p6 : View w6 b (some ⟨b, 0, none⟩) n l := by rw [hw6]; exact p3
  clear hw6 v3 p3 r3 B3
  go_wp2_with fail
  refine (zzappend_nil v 1 hnx v0 v1').mono ?_
  rintro e w7 ⟨b7, c7, rfl, v7, hb7, hb7', g7⟩
  have B7 := bel_none B6 g7
  have p7 := p6.kept g7 (by simp)
  clear p6 g7 B6 hb7
  go_wp2_with fail
  refine (equal_any v7 (p7.front 1) hnx.out (by rw [List.length_take, hl.out]; omega)).mono ?_
  rintro e w7' ⟨rfl, q7, hw7⟩
  have e7 : decide (enc v = l.take 1) = true := decide_eq_true heq.out
  rw [e7]
  have B7 : Below w0.heap.size w0 w7' := by rw [hw7]; exact below_drewN B7 q7
  have v7 : View w7' b7 (some ⟨b7, 0, none⟩) c7 (enc v) := by rw [hw7]; exact v7
  have hb7' : b7 < w7'.heap.size := by rw [hw7]; exact hb7'
  clear e7 hw7 p7
  go_wp2_with fail
  refine (reader_view v7 (by omega)).mono ?_
  rintro e w8 ⟨R2, rfl, r8, v8, hbR2, hR2, g8⟩
  have B8 := bel_none B7 g8
  have hR2' : w0.heap.size ≤ R2 := Nat.le_trans B7.size hR2
  have hN := hid (enc_need v v0 [])
  have hV := hid (enc_val v v0 v1' [])
  rw [List.append_nil] at hN hV
  clear v7 g8 B7 hR2
  go_wp2_with fail
  refine (zzlenEnc_ok r8 v8 hnx.out hbR2 (by rw [hN.out, hnx.out]; exact Nat.le_refl _) (enc_byte v v0 v1')).mono ?_
  rintro e w9 ⟨rfl, a9, r9, v9, g9⟩
  rw [hV.out]
  rw [hN.out, hnx.out, Nat.sub_self] at r9
  have B9 := bel_some B8 g9 hR2'
  clear r8 v8 v9 g9 B8
  go_wp2_with fail
  refine (bad_any r9).mono ?_
  rintro e w10 ⟨rfl, rfl⟩
  go_wp2_with fail
  refine (rest_any r9).mono ?_
  rintro e w11 ⟨rfl, rfl⟩
  go_wp2
  go_ret
  exact ⟨rfl, B9⟩

set_option maxHeartbeats 800000 in
theorem read_3_less {w : World} {b0 off0 n c : Nat} {l : List Int} (x : Int) (h : Arg w (some ⟨b0, off0, none⟩) n l) (hn : n ≤ 1048576) (h1 : 1 ≤ n) (hc : w.cell? ⟨b0, off0, none⟩ = some (.int .u8 x)) (k1 : (x == 251) = false) (k2 : (x == 255) = false) (v : Int) (hval : Hid (val l = v)) (v0 : 0 ≤ v) (v1' : v < 18446744073709551616) (hneed : Hid (need l = 3)) (hT : 3 ≤ n) (nx : Nat) (hnx : Hid ((enc v).length = nx)) (hx : nx < 3) (hby : ∀ x ∈ l, 0 ≤ x ∧ x ≤ 255) :
    Calls Try.prog 5 #[.slice (some ⟨b0, off0, none⟩) n c] w fun e w' => e = .returned (.bool true) ∧ Below w.heap.size w w' := by
  have hne : ((nx : Int) == 3) = false := by simp; omega
  have hu : (n : Int) - ((n - 3 : Nat) : Int) = 3 := by omega
  have hx1 : 1 ≤ nx := by have := (enc_pos v).1; rw [hnx.out] at this; exact this
  have hx9 : nx ≤ 9 := by have := (enc_pos v).2; rw [hnx.out] at this; exact this
  have hn0 : ((n : Int) == 0) = false := by simp; omega
  have hl := hid h.1
  go_enter Try.func5, Try.ntmps5
  go_wp2_with fail
  refine (bytes20_yes _ n c w hn).mono ?_
  rintro e w0 ⟨rfl, rfl⟩
  go_wp2_with fail
  refine (clone_split h hn).mono ?_
  rintro e w1 ⟨a1, c1, b, rfl, v1, hs, hb, g1⟩
  have B1 := bel_start g1
  clear h g1
  rcases hs with ⟨_, _, rfl⟩ | ⟨rfl, hbl, rfl⟩
  · have := hl.out; simp at this; omega
  go_wp2_with fail
  refine (reader_view v1 (by omega)).mono ?_
  rintro e w2 ⟨R, rfl, r2, v2, hbR, hR, g2⟩
  have B2 := bel_none B1 g2
  have hR' : w0.heap.size ≤ R := Nat.le_trans B1.size hR
  have hbl2 : b < w2.heap.size := Nat.lt_of_lt_of_le hbl g2.size
  clear v1 g2 B1 hbl hR
  go_wp2_with fail
  refine (zzlenEnc_ok r2 v2 hl.out hbR (by rw [hneed.out]; exact hT) hby).mono ?_
  rintro e w3 ⟨rfl, a3, r3, v3, g3⟩
  rw [hval.out]
  rw [hneed.out] at r3 v3
  have B3 := bel_some B2 g3 hR'
  have p3 := v2.kept g3 (by simpa using hbR)
  have hbl3 : b < w3.heap.size := Nat.lt_of_lt_of_le hbl2 g3.size
  clear r2 v2 g3 B2
  go_wp2_with fail
  refine (bad_any r3).mono ?_
  rintro e w4 ⟨rfl, rfl⟩
  go_wp2_with fail
  refine (rest_any r3).mono ?_
  rintro e w5 ⟨rfl, rfl⟩
  go_wp2_with fail
  refine (suffix_any v3 p3 hl.out hT).mono ?_
  rintro e w6 ⟨rfl, q, hw6⟩
  have B6 : Below w0.heap.size w0 w6 := by rw [hw6]; exact below_drewN B3 q
  have p6 : View w6 b (some ⟨b, 0, none⟩) n l := by rw [hw6]; exact p3
  clear hw6 v3 p3 r3 B3
  go_wp2_with fail
  refine (zzappend_nil v nx hnx v0 v1').mono ?_
  rintro e w7 ⟨b7, c7, rfl, v7, hb7, hb7', g7⟩
  have B7 := bel_none B6 g7
  have p7 := p6.kept g7 (by simp)
  clear p6 g7 B6 hb7
  go_wp2_with fail
  refine (reader_view v7 (by omega)).mono ?_
  rintro e w8 ⟨R2, rfl, r8, v8, hbR2, hR2, g8⟩
  have B8 := bel_none B7 g8
  have hR2' : w0.heap.size ≤ R2 := Nat.le_trans B7.size hR2
  have hN := hid (enc_need v v0 [])
  have hV := hid (enc_val v v0 v1' [])
  rw [List.append_nil] at hN hV
  clear v7 g8 B7 hR2
  go_wp2_with fail
  refine (zzlenEnc_ok r8 v8 hnx.out hbR2 (by rw [hN.out, hnx.out]; exact Nat.le_refl _) (enc_byte v v0 v1')).mono ?_
  rintro e w9 ⟨rfl, a9, r9, v9, g9⟩
  rw [hV.out]
  rw [hN.out, hnx.out, Nat.sub_self] at r9
  have B9 := bel_some B8 g9 hR2'
  clear r8 v8 v9 g9 B8
  go_wp2_with fail
  refine (bad_any r9).mono ?_
  rintro e w10 ⟨rfl, rfl⟩
  go_wp2_with fail
  refine (rest_any r9).mono ?_
  rintro e w11 ⟨rfl, rfl⟩
  go_wp2
  go_ret
  exact ⟨rfl, B9⟩

set_option maxHeartbeats 800000 in
theorem read_3_same {w : World} {b0 off0 n c : Nat} {l : List Int} (x : Int) (h : Arg w (some ⟨b0, off0, none⟩) n l) (hn : n ≤ 1048576) (h1 : 1 ≤ n) (hc : w.cell? ⟨b0, off0, none⟩ = some (.int .u8 x)) (k1 : (x == 251) = false) (k2 : (x == 255) = false) (v : Int) (hval : Hid (val l = v)) (v0 : 0 ≤ v) (v1' : v < 18446744073709551616) (hneed : Hid (need l = 3)) (hT : 3 ≤ n) (nx : Nat) (hnx : Hid ((enc v).length = nx)) (hx : nx = 3) (heq : Hid (enc v = l.take 3)) (hby : ∀ x ∈ l, 0 ≤ x ∧ x ≤ 255) :
    Calls Try.prog 5 #[.slice (some ⟨b0, off0, none⟩) n c] w fun e w' => e = .returned (.bool true) ∧ Below w.heap.size w w' := by
  subst hx
  have hu : (n : Int) - ((n - 3 : Nat) : Int) = 3 := by omega
  have hx1 : 1 ≤ 3 := by have := (enc_pos v).1; rw [hnx.out] at this; exact this
  have hx9 : 3 ≤ 9 := by have := (enc_pos v).2; rw [hnx.out] at this; exact this
  have hn0 : ((n : Int) == 0) = false := by simp; omega
  have hl := hid h.1
  go_enter Try.func5, Try.ntmps5
  go_wp2_with fail
  refine (bytes20_yes _ n c w hn).mono ?_
  rintro e w0 ⟨rfl, rfl⟩
  go_wp2_with fail
  refine (clone_split h hn).mono ?_
  rintro e w1 ⟨a1, c1, b, rfl, v1, hs, hb, g1⟩
  have B1 := bel_start g1
  clear h g1
  rcases hs with ⟨_, _, rfl⟩ | ⟨rfl, hbl, rfl⟩
  · have := hl.out; simp at this; omega
  go_wp2_with fail
  refine (reader_view v1 (by omega)).mono ?_
  rintro e w2 ⟨R, rfl, r2, v2, hbR, hR, g2⟩
  have B2 := bel_none B1 g2
  have hR' : w0.heap.size ≤ R := Nat.le_trans B1.size hR
  have hbl2 : b < w2.heap.size := Nat.lt_of_lt_of_le hbl g2.size
  clear v1 g2 B1 hbl hR
  go_wp2_with fail
  refine (zzlenEnc_ok r2 v2 hl.out hbR (by rw [hneed.out]; exact hT) hby).mono ?_
  rintro e w3 ⟨rfl, a3, r3, v3, g3⟩
  rw [hval.out]
  rw [hneed.out] at r3 v3
  have B3 := bel_some B2 g3 hR'
  have p3 := v2.kept g3 (by simpa using hbR)
  have hbl3 : b < w3.heap.size := Nat.lt_of_lt_of_le hbl2 g3.size
  clear r2 v2 g3 B2
  go_wp2_with fail
  refine (bad_any r3).mono ?_
  rintro e w4 ⟨rfl, rfl⟩
  go_wp2_with fail
  refine (rest_any r3).mono ?_
  rintro e w5 ⟨rfl, rfl⟩
  go_wp2_with fail
  refine (suffix_any v3 p3 hl.out hT).mono ?_
  rintro e w6 ⟨rfl, q, hw6⟩
  have B6 : Below w0.heap.size w0 w6 := by rw [hw6]; exact below_drewN B3 q
  have p6 : View w6 b (some ⟨b, 0, none⟩) n l := by rw [hw6]; exact p3
  clear hw6 v3 p3 r3 B3
  go_wp2_with fail
  refine (zzappend_nil v 3 hnx v0 v1').mono ?_
  rintro e w7 ⟨b7, c7, rfl, v7, hb7, hb7', g7⟩
  have B7 := bel_none B6 g7
  have p7 := p6.kept g7 (by simp)
  clear p6 g7 B6 hb7
  go_wp2_with fail
  refine (equal_any v7 (p7.front 3) hnx.out (by rw [List.length_take, hl.out]; omega)).mono ?_
  rintro e w7' ⟨rfl, q7, hw7⟩
  have e7 : decide (enc v = l.take 3) = true := decide_eq_true heq.out
  rw [e7]
  have B7 : Below w0.heap.size w0 w7' := by rw [hw7]; exact below_drewN B7 q7
  have v7 : View w7' b7 (some ⟨b7, 0, none⟩) c7 (enc v) := by rw [hw7]; exact v7
  have hb7' : b7 < w7'.heap.size := by rw [hw7]; exact hb7'
  clear e7 hw7 p7
  go_wp2_with fail
  refine (reader_view v7 (by omega)).mono ?_
  rintro e w8 ⟨R2, rfl, r8, v8, hbR2, hR2, g8⟩
  have B8 := bel_none B7 g8
  have hR2' : w0.heap.size ≤ R2 := Nat.le_trans B7.size hR2
  have hN := hid (enc_need v v0 [])
  have hV := hid (enc_val v v0 v1' [])
  rw [List.append_nil] at hN hV
  clear v7 g8 B7 hR2
  go_wp2_with fail
  refine (zzlenEnc_ok r8 v8 hnx.out hbR2 (by rw [hN.out, hnx.out]; exact Nat.le_refl _) (enc_byte v v0 v1')).mono ?_
  rintro e w9 ⟨rfl, a9, r9, v9, g9⟩
  rw [hV.out]
  rw [hN.out, hnx.out, Nat.sub_self] at r9
  have B9 := bel_some B8 g9 hR2'
  clear r8 v8 v9 g9 B8
  go_wp2_with fail
  refine (bad_any r9).mono ?_
  rintro e w10 ⟨rfl, rfl⟩
  go_wp2_with fail
  refine (rest_any r9).mono ?_
  rintro e w11 ⟨rfl, rfl⟩
  go_wp2
  go_ret
  exact ⟨rfl, B9⟩

set_option maxHeartbeats 800000 in
theorem read_4_less {w : World} {b0 off0 n c : Nat} {l : List Int} (x : Int) (h : Arg w (some ⟨b0, off0, none⟩) n l) (hn : n ≤ 1048576) (h1 : 1 ≤ n) (hc : w.cell? ⟨b0, off0, none⟩ = some (.int .u8 x)) (k1 : (x == 251) = false) (k2 : (x == 255) = false) (v : Int) (hval : Hid (val l = v)) (v0 : 0 ≤ v) (v1' : v < 18446744073709551616) (hneed : Hid (need l = 4)) (hT : 4 ≤ n) (nx : Nat) (hnx : Hid ((enc v).length = nx)) (hx : nx < 4) (hby : ∀ x ∈ l, 0 ≤ x ∧ x ≤ 255) :
    Calls Try.prog 5 #[.slice (some ⟨b0, off0, none⟩) n c] w fun e w' => e = .returned (.bool true) ∧ Below w.heap.size w w' := by
  have hne : ((nx : Int) == 4) = false := by simp; omega
  have hu : (n : Int) - ((n - 4 : Nat) : Int) = 4 := by omega
  have hx1 : 1 ≤ nx := by have := (enc_pos v).1; rw [hnx.out] at this; exact this
  have hx9 : nx ≤ 9 := by have := (enc_pos v).2; rw [hnx.out] at this; exact this
  have hn0 : ((n : Int) == 0) = false := by simp; omega
  have hl := hid h.1
  go_enter Try.func5, Try.ntmps5
  go_wp2_with fail
  refine (bytes20_yes _ n c w hn).mono ?_
  rintro e w0 ⟨rfl, rfl⟩
  go_wp2_with fail
  refine (clone_split h hn).mono ?_
  rintro e w1 ⟨a1, c1, b, rfl, v1, hs, hb, g1⟩
  have B1 := bel_start g1
  clear h g1
  rcases hs with ⟨_, _, rfl⟩ | ⟨rfl, hbl, rfl⟩
  · have := hl.out; simp at this; omega
  go_wp2_with fail
  refine (reader_view v1 (by omega)).mono ?_
  rintro e w2 ⟨R, rfl, r2, v2, hbR, hR, g2⟩
  have B2 := bel_none B1 g2
  have hR' : w0.heap.size ≤ R := Nat.le_trans B1.size hR
  have hbl2 : b < w2.heap.size := Nat.lt_of_lt_of_le hbl g2.size
  clear v1 g2 B1 hbl hR
  go_wp2_with fail
  refine (zzlenEnc_ok r2 v2 hl.out hbR (by rw [hneed.out]; exact hT) hby).mono ?_
  rintro e w3 ⟨rfl, a3, r3, v3, g3⟩
  rw [hval.out]
  rw [hneed.out] at r3 v3
  have B3 := bel_some B2 g3 hR'
  have p3 := v2.kept g3 (by simpa using hbR)
  have hbl3 : b < w3.heap.size := Nat.lt_of_lt_of_le hbl2 g3.size
  clear r2 v2 g3 B2
  go_wp2_with fail
  refine (bad_any r3).mono ?_
  rintro e w4 ⟨rfl, rfl⟩
  go_wp2_with fail
  refine (rest_any r3).mono ?_
  rintro e w5 ⟨rfl, rfl⟩
  go_wp2_with fail
  refine (suffix_any v3 p3 hl.out hT).mono ?_
  rintro e w6 ⟨rfl, q, hw6⟩
  have B6 : Below w0.heap.size w0 w6 := by rw [hw6]; exact below_drewN B3 q
  have p6 : View w6 b (some ⟨b, 0, none⟩) n l := by rw [hw6]; exact p3
  clear hw6 v3 p3 r3 B3
  go_wp2_with fail
  refine (zzappend_nil v nx hnx v0 v1').mono ?_
  rintro e w7 ⟨b7, c7, rfl, v7, hb7, hb7', g7⟩
  have B7 := bel_none B6 g7
  have p7 := p6.kept g7 (by simp)
  clear p6 g7 B6 hb7
  go_wp2_with fail
  refine (reader_view v7 (by omega)).mono ?_
  rintro e w8 ⟨R2, rfl, r8, v8, hbR2, hR2, g8⟩
  have B8 := bel_none B7 g8
  have hR2' : w0.heap.size ≤ R2 := Nat.le_trans B7.size hR2
  have hN := hid (enc_need v v0 [])
  have hV := hid (enc_val v v0 v1' [])
  rw [List.append_nil] at hN hV
  clear v7 g8 B7 hR2
  go_wp2_with fail
  refine (zzlenEnc_ok r8 v8 hnx.out hbR2 (by rw [hN.out, hnx.out]; exact Nat.le_refl _) (enc_byte v v0 v1')).mono ?_
  rintro e w9 ⟨rfl, a9, r9, v9, g9⟩
  rw [hV.out]
  rw [hN.out, hnx.out, Nat.sub_self] at r9
  have B9 := bel_some B8 g9 hR2'
  clear r8 v8 v9 g9 B8
  go_wp2_with fail
  refine (bad_any r9).mono ?_
  rintro e w10 ⟨rfl, rfl⟩
  go_wp2_with fail
  refine (rest_any r9).mono ?_
  rintro e w11 ⟨rfl, rfl⟩
  go_wp2
  go_ret
  exact ⟨rfl, B9⟩

set_option maxHeartbeats 800000 in
theorem read_4_same {w : World} {b0 off0 n c : Nat} {l : List Int} (x : Int) (h : Arg w (some ⟨b0, off0, none⟩) n l) (hn : n ≤ 1048576) (h1 : 1 ≤ n) (hc : w.cell? ⟨b0, off0, none⟩ = some (.int .u8 x)) (k1 : (x == 251) = false) (k2 : (x == 255) = false) (v : Int) (hval : Hid (val l = v)) (v0 : 0 ≤ v) (v1' : v < 18446744073709551616) (hneed : Hid (need l = 4)) (hT : 4 ≤ n) (nx : Nat) (hnx : Hid ((enc v).length = nx)) (hx : nx = 4) (heq : Hid (enc v = l.take 4)) (hby : ∀ x ∈ l, 0 ≤ x ∧ x ≤ 255) :
    Calls Try.prog 5 #[.slice (some ⟨b0, off0, none⟩) n c] w fun e w' => e = .returned (.bool true) ∧ Below w.heap.size w w' := by
  subst hx
  have hu : (n : Int) - ((n - 4 : Nat) : Int) = 4 := by omega
  have hx1 : 1 ≤ 4 := by have := (enc_pos v).1; rw [hnx.out] at this; exact this
  have hx9 : 4 ≤ 9 := by have := (enc_pos v).2; rw [hnx.out] at this; exact this
  have hn0 : ((n : Int) == 0) = false := by simp; omega
  have hl := hid h.1
  go_enter Try.func5, Try.ntmps5
  go_wp2_with fail
  refine (bytes20_yes _ n c w hn).mono ?_
  rintro e w0 ⟨rfl, rfl⟩
  go_wp2_with fail
  refine (clone_split h hn).mono ?_
  rintro e w1 ⟨a1, c1, b, rfl, v1, hs, hb, g1⟩
  have B1 := bel_start g1
  clear h g1
  rcases hs with ⟨_, _, rfl⟩ | ⟨rfl, hbl, rfl⟩
  · have := hl.out; simp at this; omega
  go_wp2_with fail
  refine (reader_view v1 (by omega)).mono ?_
  rintro e w2 ⟨R, rfl, r2, v2, hbR, hR, g2⟩
  have B2 := bel_none B1 g2
  have hR' : w0.heap.size ≤ R := Nat.le_trans B1.size hR
  have hbl2 : b < w2.heap.size := Nat.lt_of_lt_of_le hbl g2.size
  clear v1 g2 B1 hbl hR
  go_wp2_with fail
  refine (zzlenEnc_ok r2 v2 hl.out hbR (by rw [hneed.out]; exact hT) hby).mono ?_
  rintro e w3 ⟨rfl, a3, r3, v3, g3⟩
  rw [hval.out]
  rw [hneed.out] at r3 v3
  have B3 := bel_some B2 g3 hR'
  have p3 := v2.kept g3 (by simpa using hbR)
  have hbl3 : b < w3.heap.size := Nat.lt_of_lt_of_le hbl2 g3.size
  clear r2 v2 g3 B2
  go_wp2_with fail
  refine (bad_any r3).mono ?_
  rintro e w4 ⟨rfl, rfl⟩
  go_wp2_with fail
  refine (rest_any r3).mono ?_
  rintro e w5 ⟨rfl, rfl⟩
  go_wp2_with fail
  refine (suffix_any v3 p3 hl.out hT).mono ?_
  rintro e w6 ⟨rfl, q, hw6⟩
  have B6 : Below w0.heap.size w0 w6 := by rw [hw6]; exact below_drewN B3 q
  have p6 : View w6 b (some ⟨b, 0, none⟩) n l := by rw [hw6]; exact p3
  clear hw6 v3 p3 r3 B3
  go_wp2_with fail
  refine (zzappend_nil v 4 hnx v0 v1').mono ?_
  rintro e w7 ⟨b7, c7, rfl, v7, hb7, hb7', g7⟩
  have B7 := bel_none B6 g7
  have p7 := p6.kept g7 (by simp)
  clear p6 g7 B6 hb7
  go_wp2_with fail
  refine (equal_any v7 (p7.front 4) hnx.out (by rw [List.length_take, hl.out]; omega)).mono ?_
  rintro e w7' ⟨rfl, q7, hw7⟩
  have e7 : decide (enc v = l.take 4) = true := decide_eq_true heq.out
  rw [e7]
  have B7 : Below w0.heap.size w0 w7' := by rw [hw7]; exact below_drewN B7 q7
  have v7 : View w7' b7 (some ⟨b7, 0, none⟩) c7 (enc v) := by rw [hw7]; exact v7
  have hb7' : b7 < w7'.heap.size := by rw [hw7]; exact hb7'
  clear e7 hw7 p7
  go_wp2_with fail
  refine (reader_view v7 (by omega)).mono ?_
  rintro e w8 ⟨R2, rfl, r8, v8, hbR2, hR2, g8⟩
  have B8 := bel_none B7 g8
  have hR2' : w0.heap.size ≤ R2 := Nat.le_trans B7.size hR2
  have hN := hid (enc_need v v0 [])
  have hV := hid (enc_val v v0 v1' [])
  rw [List.append_nil] at hN hV
  clear v7 g8 B7 hR2
  go_wp2_with fail
  refine (zzlenEnc_ok r8 v8 hnx.out hbR2 (by rw [hN.out, hnx.out]; exact Nat.le_refl _) (enc_byte v v0 v1')).mono ?_
  rintro e w9 ⟨rfl, a9, r9, v9, g9⟩
  rw [hV.out]
  rw [hN.out, hnx.out, Nat.sub_self] at r9
  have B9 := bel_some B8 g9 hR2'
  clear r8 v8 v9 g9 B8
  go_wp2_with fail
  refine (bad_any r9).mono ?_
  rintro e w10 ⟨rfl, rfl⟩
  go_wp2_with fail
  refine (rest_any r9).mono ?_
  rintro e w11 ⟨rfl, rfl⟩
  go_wp2
  go_ret
  exact ⟨rfl, B9⟩

set_option maxHeartbeats 800000 in
theorem read_9_less {w : World} {b0 off0 n c : Nat} {l : List Int} (x : Int) (h : Arg w (some ⟨b0, off0, none⟩) n l) (hn : n ≤ 1048576) (h1 : 1 ≤ n) (hc : w.cell? ⟨b0, off0, none⟩ = some (.int .u8 x)) (k1 : (x == 251) = false) (k2 : (x == 255) = false) (v : Int) (hval : Hid (val l = v)) (v0 : 0 ≤ v) (v1' : v < 18446744073709551616) (hneed : Hid (need l = 9)) (hT : 9 ≤ n) (nx : Nat) (hnx : Hid ((enc v).length = nx)) (hx : nx < 9) (hby : ∀ x ∈ l, 0 ≤ x ∧ x ≤ 255) :
    Calls Try.prog 5 #[.slice (some ⟨b0, off0, none⟩) n c] w fun e w' => e = .returned (.bool true) ∧ Below w.heap.size w w' := by
  have hne : ((nx : Int) == 9) = false := by simp; omega
  have hu : (n : Int) - ((n - 9 : Nat) : Int) = 9 := by omega
  have hx1 : 1 ≤ nx := by have := (enc_pos v).1; rw [hnx.out] at this; exact this
  have hx9 : nx ≤ 9 := by have := (enc_pos v).2; rw [hnx.out] at this; exact this
  have hn0 : ((n : Int) == 0) = false := by simp; omega
  have hl := hid h.1
  go_enter Try.func5, Try.ntmps5
  go_wp2_with fail
  refine (bytes20_yes _ n c w hn).mono ?_
  rintro e w0 ⟨rfl, rfl⟩
  go_wp2_with fail
  refine (clone_split h hn).mono ?_
  rintro e w1 ⟨a1, c1, b, rfl, v1, hs, hb, g1⟩
  have B1 := bel_start g1
  clear h g1
  rcases hs with ⟨_, _, rfl⟩ | ⟨rfl, hbl, rfl⟩
  · have := hl.out; simp at this; omega
  go_wp2_with fail
  refine (reader_view v1 (by omega)).mono ?_
  rintro e w2 ⟨R, rfl, r2, v2, hbR, hR, g2⟩
  have B2 := bel_none B1 g2
  have hR' : w0.heap.size ≤ R := Nat.le_trans B1.size hR
  have hbl2 : b < w2.heap.size := Nat.lt_of_lt_of_le hbl g2.size
  clear v1 g2 B1 hbl hR
  go_wp2_with fail
  refine (zzlenEnc_ok r2 v2 hl.out hbR (by rw [hneed.out]; exact hT) hby).mono ?_
  rintro e w3 ⟨rfl, a3, r3, v3, g3⟩
  rw [hval.out]
  rw [hneed.out] at r3 v3
  have B3 := bel_some B2 g3 hR'
  have p3 := v2.kept g3 (by simpa using hbR)
  have hbl3 : b < w3.heap.size := Nat.lt_of_lt_of_le hbl2 g3.size
  clear r2 v2 g3 B2
  go_wp2_with fail
  refine (bad_any r3).mono ?_
  rintro e w4 ⟨rfl, rfl⟩
  go_wp2_with fail
  refine (rest_any r3).mono ?_
  rintro e w5 ⟨rfl, rfl⟩
  go_wp2_with fail
  refine (suffix_any v3 p3 hl.out hT).mono ?_
  rintro e w6 ⟨rfl, q, hw6⟩
  have B6 : Below w0.heap.size w0 w6 := by rw [hw6]; exact below_drewN B3 q
  have p6 : View w6 b (some ⟨b, 0, none⟩) n l := by rw [hw6]; exact p3
  clear hw6 v3 p3 r3 B3
  go_wp2_with fail
  refine (zzappend_nil v nx hnx v0 v1').mono ?_
  rintro e w7 ⟨b7, c7, rfl, v7, hb7, hb7', g7⟩
  have B7 := bel_none B6 g7
  have p7 := p6.kept g7 (by simp)
  clear p6 g7 B6 hb7
  go_wp2_with fail
  refine (reader_view v7 (by omega)).mono ?_
  rintro e w8 ⟨R2, rfl, r8, v8, hbR2, hR2, g8⟩
  have B8 := bel_none B7 g8
  have hR2' : w0.heap.size ≤ R2 := Nat.le_trans B7.size hR2
  have hN := hid (enc_need v v0 [])
  have hV := hid (enc_val v v0 v1' [])
  rw [List.append_nil] at hN hV
  clear v7 g8 B7 hR2
  go_wp2_with fail
  refine (zzlenEnc_ok r8 v8 hnx.out hbR2 (by rw [hN.out, hnx.out]; exact Nat.le_refl _) (enc_byte v v0 v1')).mono ?_
  rintro e w9 ⟨rfl, a9, r9, v9, g9⟩
  rw [hV.out]
  rw [hN.out, hnx.out, Nat.sub_self] at r9
  have B9 := bel_some B8 g9 hR2'
  clear r8 v8 v9 g9 B8
  go_wp2_with fail
  refine (bad_any r9).mono ?_
  rintro e w10 ⟨rfl, rfl⟩
  go_wp2_with fail
  refine (rest_any r9).mono ?_
  rintro e w11 ⟨rfl, rfl⟩
  go_wp2
  go_ret
  exact ⟨rfl, B9⟩

set_option maxHeartbeats 800000 in
theorem read_9_same {w : World} {b0 off0 n c : Nat} {l : List Int} (x : Int) (h : Arg w (some ⟨b0, off0, none⟩) n l) (hn : n ≤ 1048576) (h1 : 1 ≤ n) (hc : w.cell? ⟨b0, off0, none⟩ = some (.int .u8 x)) (k1 : (x == 251) = false) (k2 : (x == 255) = false) (v : Int) (hval : Hid (val l = v)) (v0 : 0 ≤ v) (v1' : v < 18446744073709551616) (hneed : Hid (need l = 9)) (hT : 9 ≤ n) (nx : Nat) (hnx : Hid ((enc v).length = nx)) (hx : nx = 9) (heq : Hid (enc v = l.take 9)) (hby : ∀ x ∈ l, 0 ≤ x ∧ x ≤ 255) :
    Calls Try.prog 5 #[.slice (some ⟨b0, off0, none⟩) n c] w fun e w' => e = .returned (.bool true) ∧ Below w.heap.size w w' := by
  subst hx
  have hu : (n : Int) - ((n - 9 : Nat) : Int) = 9 := by omega
  have hx1 : 1 ≤ 9 := by have := (enc_pos v).1; rw [hnx.out] at this; exact this
  have hx9 : 9 ≤ 9 := by have := (enc_pos v).2; rw [hnx.out] at this; exact this
  have hn0 : ((n : Int) == 0) = false := by simp; omega
  have hl := hid h.1
  go_enter Try.func5, Try.ntmps5
  go_wp2_with fail
  refine (bytes20_yes _ n c w hn).mono ?_
  rintro e w0 ⟨rfl, rfl⟩
  go_wp2_with fail
  refine (clone_split h hn).mono ?_
  rintro e w1 ⟨a1, c1, b, rfl, v1, hs, hb, g1⟩
  have B1 := bel_start g1
  clear h g1
  rcases hs with ⟨_, _, rfl⟩ | ⟨rfl, hbl, rfl⟩
  · have := hl.out; simp at this; omega
  go_wp2_with fail
  refine (reader_view v1 (by omega)).mono ?_
  rintro e w2 ⟨R, rfl, r2, v2, hbR, hR, g2⟩
  have B2 := bel_none B1 g2
  have hR' : w0.heap.size ≤ R := Nat.le_trans B1.size hR
  have hbl2 : b < w2.heap.size := Nat.lt_of_lt_of_le hbl g2.size
  clear v1 g2 B1 hbl hR
  go_wp2_with fail
  refine (zzlenEnc_ok r2 v2 hl.out hbR (by rw [hneed.out]; exact hT) hby).mono ?_
  rintro e w3 ⟨rfl, a3, r3, v3, g3⟩
  rw [hval.out]
  rw [hneed.out] at r3 v3
  have B3 := bel_some B2 g3 hR'
  have p3 := v2.kept g3 (by simpa using hbR)
  have hbl3 : b < w3.heap.size := Nat.lt_of_lt_of_le hbl2 g3.size
  clear r2 v2 g3 B2
  go_wp2_with fail
  refine (bad_any r3).mono ?_
  rintro e w4 ⟨rfl, rfl⟩
  go_wp2_with fail
  refine (rest_any r3).mono ?_
  rintro e w5 ⟨rfl, rfl⟩
  go_wp2_with fail
  refine (suffix_any v3 p3 hl.out hT).mono ?_
  rintro e w6 ⟨rfl, q, hw6⟩
  have B6 : Below w0.heap.size w0 w6 := by rw [hw6]; exact below_drewN B3 q
  have p6 : View w6 b (some ⟨b, 0, none⟩) n l := by rw [hw6]; exact p3
  clear hw6 v3 p3 r3 B3
  go_wp2_with fail
  refine (zzappend_nil v 9 hnx v0 v1').mono ?_
  rintro e w7 ⟨b7, c7, rfl, v7, hb7, hb7', g7⟩
  have B7 := bel_none B6 g7
  have p7 := p6.kept g7 (by simp)
  clear p6 g7 B6 hb7
  go_wp2_with fail
  refine (equal_any v7 (p7.front 9) hnx.out (by rw [List.length_take, hl.out]; omega)).mono ?_
  rintro e w7' ⟨rfl, q7, hw7⟩
  have e7 : decide (enc v = l.take 9) = true := decide_eq_true heq.out
  rw [e7]
  have B7 : Below w0.heap.size w0 w7' := by rw [hw7]; exact below_drewN B7 q7
  have v7 : View w7' b7 (some ⟨b7, 0, none⟩) c7 (enc v) := by rw [hw7]; exact v7
  have hb7' : b7 < w7'.heap.size := by rw [hw7]; exact hb7'
  clear e7 hw7 p7
  go_wp2_with fail
  refine (reader_view v7 (by omega)).mono ?_
  rintro e w8 ⟨R2, rfl, r8, v8, hbR2, hR2, g8⟩
  have B8 := bel_none B7 g8
  have hR2' : w0.heap.size ≤ R2 := Nat.le_trans B7.size hR2
  have hN := hid (enc_need v v0 [])
  have hV := hid (enc_val v v0 v1' [])
  rw [List.append_nil] at hN hV
  clear v7 g8 B7 hR2
  go_wp2_with fail
  refine (zzlenEnc_ok r8 v8 hnx.out hbR2 (by rw [hN.out, hnx.out]; exact Nat.le_refl _) (enc_byte v v0 v1')).mono ?_
  rintro e w9 ⟨rfl, a9, r9, v9, g9⟩
  rw [hV.out]
  rw [hN.out, hnx.out, Nat.sub_self] at r9
  have B9 := bel_some B8 g9 hR2'
  clear r8 v8 v9 g9 B8
  go_wp2_with fail
  refine (bad_any r9).mono ?_
  rintro e w10 ⟨rfl, rfl⟩
  go_wp2_with fail
  refine (rest_any r9).mono ?_
  rintro e w11 ⟨rfl, rfl⟩
  go_wp2
  go_ret
  exact ⟨rfl, B9⟩

theorem walk (a0 : Option Addr) (len0 cap0 : Nat) (z0 : List Int) (w : World) (w0 : IsRow .u8 w a0 len0 cap0 z0) :
    Calls Try.prog 5 #[.slice a0 len0 cap0] w fun e w' => e = .returned (.bool true) ∧ Below w.heap.size w w' := by
  obtain ⟨ha, hby, _⟩ := w0.arg
  obtain ⟨l, hl⟩ : ∃ l, l = z0.take len0 := ⟨_, rfl⟩
  rw [← hl] at ha hby
  by_cases hn : 1048576 < len0
  · exact wide hn
  · have hn' : len0 ≤ 1048576 := by omega
    by_cases h0 : len0 = 0
    · subst h0
      exact empty
    · have hll := ha.1
      obtain ⟨b0, off0, rfl, hc⟩ : ∃ b0 off0, a0 = some ⟨b0, off0, none⟩ ∧ w.cell? ⟨b0, off0, none⟩ = some (.int .u8 (l.getD 0 0)) := by
        rcases ha.2 with ⟨_, h⟩ | ⟨x, rfl, hx⟩
        · exact absurd h h0
        · obtain ⟨b0, off0, spot⟩ := x
          have hx0 := hx 0 (by omega)
          have hs := World.cell?_spot hx0
          have hsp : spot = none := by simpa [Addr.add] using hs
          subst hsp
          exact ⟨b0, off0, rfl, by simpa [Addr.add_lit] using hx0⟩
      by_cases hh : l.getD 0 0 = 251 ∨ l.getD 0 0 = 255
      · exact headed _ hn' (by omega) hc hh
      · have k1 : (l.getD 0 0 == 251) = false := beq_eq_false_iff_ne.2 (fun e => hh (.inl e))
        have k2 : (l.getD 0 0 == 255) = false := beq_eq_false_iff_ne.2 (fun e => hh (.inr e))
        by_cases hs : len0 < need l
        · exact short _ ha hn' (by omega) hc k1 k2 hs
        · obtain ⟨r1, r2, r3, r4⟩ := re_enc l hby (by omega) (fun e => hh (.inl e)) (fun e => hh (.inr e))
          rcases need_cases l with ⟨_, hd⟩ | ⟨_, hd⟩ | ⟨_, hd⟩ | ⟨_, _, _, hd⟩
          all_goals rw [hd] at r3 r4
          · by_cases hx : (enc (val l)).length = 3
            · exact read_3_same _ ha hn' (by omega) hc k1 k2 (val l) rfl r1 r2 hd (by omega) _ rfl hx (r4 hx) hby
            · exact read_3_less _ ha hn' (by omega) hc k1 k2 (val l) rfl r1 r2 hd (by omega) _ rfl (by omega) hby
          · by_cases hx : (enc (val l)).length = 4
            · exact read_4_same _ ha hn' (by omega) hc k1 k2 (val l) rfl r1 r2 hd (by omega) _ rfl hx (r4 hx) hby
            · exact read_4_less _ ha hn' (by omega) hc k1 k2 (val l) rfl r1 r2 hd (by omega) _ rfl (by omega) hby
          · by_cases hx : (enc (val l)).length = 9
            · exact read_9_same _ ha hn' (by omega) hc k1 k2 (val l) rfl r1 r2 hd (by omega) _ rfl hx (r4 hx) hby
            · exact read_9_less _ ha hn' (by omega) hc k1 k2 (val l) rfl r1 r2 hd (by omega) _ rfl (by omega) hby
          · have hx : (enc (val l)).length = 1 := by have := (enc_pos (val l)).1; omega
            exact read_1_same _ ha hn' (by omega) hc k1 k2 (val l) rfl r1 r2 hd (by omega) _ rfl hx (r4 hx) hby

/-! ### THE ROW's STEP: WRITTEN OUT: LEAVE IT -/
set_option maxRecDepth 100000 in
theorem lifted (os : Os) (started : os.Started) (H : Type) (enc : TypeId × Value → H) :
    ReturnsInHanded {} Try.checked os 5 .any (Rows.fnLenEncIntReencodesNoLongerSpec.pre6 enc Try.prog Try.f5 Rows.fnLenEncIntReencodesNoLongerRow.domain false) (Rows.fnLenEncIntReencodesNoLongerSpec.post enc Try.prog Try.f5 false true false false) := by
  refine returnsInHanded_of_change (C := Try.checked) own started (by kernel_rfl) Try.func5
    (ChangeSpec.witness6 (enc := enc) (C := Try.checked) false ⟨#[], #[.slice none 0 0], []⟩ 8 (by kernel_rfl) (by kernel_rfl) (by kernel_rfl) (by kernel_rfl)) ?_
  intro W base args ds gs before hval0 hW hcnd _
  have hval : ∀ (j : Nat) t v, Try.f5.params[j]? = some t → args[j]? = some v → Value.okWide Try.prog W .any base t v := hval0
  have hW' := hW
  obtain ⟨p, q, hA0, hV, rfl, hfz, hnd⟩ := hW
  have hA : DataW.TrodAll enc Try.prog W 0 (fun _ => true) true Try.f5.params.toList args.toList ds p := hA0
  rw [Try.params5] at hA hval
  obtain ⟨v0, vs0, d0, ds0, p0, q0, hargs, rfl, rfl, h0, r0⟩ := trodAll_cons hA
  obtain ⟨rfl, rfl, rfl⟩ := trodAll_nil r0
  obtain rfl : args = #[v0] := by cases args; simp_all
  obtain ⟨rfl, rfl⟩ := trodVars_none hV
  obtain ⟨a0, len0, cap0, rfl⟩ := okWide_slice Try.underlying22 (hval 0 22 v0 rfl rfl)
  have k0 := h0
  have lt0 : ∀ x ∈ p0, x.block < W.heap.size := by obtain ⟨m, hm⟩ := k0; exact DataW.trod_lt m _ _ _ hm
  obtain ⟨z0, w0⟩ : ∃ zs, IsRow .u8 W a0 len0 cap0 zs := by
    obtain ⟨fuel, hf⟩ := h0
    rcases open_ints Try.underlying22 Try.underlying5 (by kernel_rfl) hf with ⟨hcs, _⟩ | ⟨x, l, c, zs, hcs, _, hl, hm, hz, _, hcell, hwz⟩
    · simp [Value.cells] at hcs
      obtain ⟨rfl, rfl, rfl⟩ := hcs
      exact ⟨[], .inl ⟨rfl, rfl, rfl, rfl⟩⟩
    · simp [Value.cells] at hcs
      obtain ⟨rfl, rfl, rfl⟩ := hcs
      exact ⟨zs, .inr ⟨_, rfl, hl, hm, by simpa using hz, hcell, hwz⟩⟩
  clear hA0 hval0
  refine (walk a0 len0 cap0 z0 W w0).mono fun e W' ⟨he, bel⟩ => ?_
  subst he
  exact ⟨_, rfl, _, _, _, [], _, [], hW', trodAll_mk1 (shut_bool Try.underlying4 _), (trodAll_cons_mk (Below.trod laidOut (by kernel_rfl) (of_decide_eq_true (by kernel_rfl)) k0 bel lt0) trodAll_mk0), rfl, bel.frame _, fun h => by cases h⟩

theorem over : Rows.fnLenEncIntReencodesNoLongerRow.holds Try.pinned (OpenSpec.ofChange Rows.fnLenEncIntReencodesNoLongerSpec) :=
  OpenClaim.holds_of_wide 5 Try.f5 rfl rfl rfl rfl rfl rfl rfl ⟨rfl, rfl, rfl, rfl, rfl⟩ rfl rfl rfl rfl rfl (by kernel_rfl) Try.func5 (by kernel_rfl)
    (of_decide_eq_true (by kernel_rfl)) (by unfold Func.isWrapper; first | (rw [if_pos (by decide +kernel)]; kernel_rfl) | (rw [if_neg (by decide +kernel)]; exact ⟨rfl, rfl⟩))
    (fun os started H enc _ => lifted os started H enc)

/-- ████ THE STATEMENT ████ -/
theorem proved : Rows.FnLenEncIntReencodesNoLongerSaid := over
end Go.Proofs.Qxb6001749a.fnLenEncIntReencodesNoLonger
