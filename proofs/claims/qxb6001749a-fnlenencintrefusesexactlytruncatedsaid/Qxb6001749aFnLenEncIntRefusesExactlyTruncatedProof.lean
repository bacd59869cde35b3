/-
  'Rows.FnLenEncIntRefusesExactlyTruncatedSaid', PROVED. The frame is the seed's shell (proof-skeleton.mjs); the walk is out of the contracts of WalkA to WalkF.
-/
import Derived.Test.Qxb6001749aRows
import Derived.Test.Qxb6001749aWalkF
import Derived.WalkKit
import Derived.ProofKit
import Derived.OpenShut
import Derived.ShutString
import Derived.ChangeOld
import Derived.Below
namespace Go.Proofs.Qxb6001749a.fnLenEncIntRefusesExactlyTruncated
open Go.ChangeShapes Go.WideShapes Go.ChangeAt Go.RowKit
open Go.ChangeMaps (open_string shut_string)
set_option linter.unusedVariables false

theorem own : ownKnob Try.prog.godebug = none := by kernel_rfl
theorem laidOut : laidOutB Try.prog = true := by kernel_rfl


theorem cut_fc {w : World} {ao : Option Addr} {n c : Nat} {l : List Int} (h : Arg w ao n l) (hn : n ≤ 1048576) (h1 : 1 ≤ n) (hs : n < 3) (hh : l.getD 0 0 = 252) :
    Calls Try.prog 6 #[.slice ao n c] w fun e w' => e = .returned (.bool true) ∧ Below w.heap.size w w' := by
  have hl := h.1
  have hneed : need l = 3 := by unfold need; rw [hh]; simp
  have hd : decide ((n : Int) < 3) = true := decide_eq_true (by omega)
  go_enter Try.func6, Try.ntmps6
  go_wp2_with fail
  refine (bytes22_yes ao n c w hn).mono ?_
  rintro e w0 ⟨rfl, rfl⟩
  go_wp2_with fail
  refine (clone_view h hn).mono ?_
  rintro e w1 ⟨a1, c1, b, rfl, v1, hb, hb', g1⟩
  have B1 := bel_start g1
  obtain ⟨off, rfl, hc⟩ := v1.first (by omega)
  rw [hh] at hc
  go_wp2_with fail
  refine (reader_view v1 hb).mono ?_
  rintro e w2 ⟨R, rfl, r2, v2, hbR, hR, g2⟩
  have B2 := bel_none B1 g2
  have hR' : w0.heap.size ≤ R := Nat.le_trans B1.size hR
  clear hc v1 g1 g2
  go_wp2_with fail
  refine (zzlenEnc_short r2 v2 hl hbR (by omega)).mono ?_
  rintro e w3 ⟨rfl, r3, g3⟩
  have B3 := bel_some B2 g3 hR'
  go_wp2_with fail
  refine (bad_any r3).mono ?_
  rintro e w4 ⟨rfl, rfl⟩
  go_wp2_with fail
  refine (rest_any r3).mono ?_
  rintro e w5 ⟨rfl, rfl⟩
  go_wp2
  go_ret
  exact ⟨rfl, B3⟩

theorem cut_fd {w : World} {ao : Option Addr} {n c : Nat} {l : List Int} (h : Arg w ao n l) (hn : n ≤ 1048576) (h1 : 1 ≤ n) (hs : n < 4) (hh : l.getD 0 0 = 253) :
    Calls Try.prog 6 #[.slice ao n c] w fun e w' => e = .returned (.bool true) ∧ Below w.heap.size w w' := by
  have hl := h.1
  have hneed : need l = 4 := by unfold need; rw [hh]; simp
  have hd : decide ((n : Int) < 4) = true := decide_eq_true (by omega)
  go_enter Try.func6, Try.ntmps6
  go_wp2_with fail
  refine (bytes22_yes ao n c w hn).mono ?_
  rintro e w0 ⟨rfl, rfl⟩
  go_wp2_with fail
  refine (clone_view h hn).mono ?_
  rintro e w1 ⟨a1, c1, b, rfl, v1, hb, hb', g1⟩
  have B1 := bel_start g1
  obtain ⟨off, rfl, hc⟩ := v1.first (by omega)
  rw [hh] at hc
  go_wp2_with fail
  refine (reader_view v1 hb).mono ?_
  rintro e w2 ⟨R, rfl, r2, v2, hbR, hR, g2⟩
  have B2 := bel_none B1 g2
  have hR' : w0.heap.size ≤ R := Nat.le_trans B1.size hR
  clear hc v1 g1 g2
  go_wp2_with fail
  refine (zzlenEnc_short r2 v2 hl hbR (by omega)).mono ?_
  rintro e w3 ⟨rfl, r3, g3⟩
  have B3 := bel_some B2 g3 hR'
  go_wp2_with fail
  refine (bad_any r3).mono ?_
  rintro e w4 ⟨rfl, rfl⟩
  go_wp2_with fail
  refine (rest_any r3).mono ?_
  rintro e w5 ⟨rfl, rfl⟩
  go_wp2
  go_ret
  exact ⟨rfl, B3⟩

theorem cut_fe {w : World} {ao : Option Addr} {n c : Nat} {l : List Int} (h : Arg w ao n l) (hn : n ≤ 1048576) (h1 : 1 ≤ n) (hs : n < 9) (hh : l.getD 0 0 = 254) :
    Calls Try.prog 6 #[.slice ao n c] w fun e w' => e = .returned (.bool true) ∧ Below w.heap.size w w' := by
  have hl := h.1
  have hneed : need l = 9 := by unfold need; rw [hh]; simp
  have hd : decide ((n : Int) < 9) = true := decide_eq_true (by omega)
  go_enter Try.func6, Try.ntmps6
  go_wp2_with fail
  refine (bytes22_yes ao n c w hn).mono ?_
  rintro e w0 ⟨rfl, rfl⟩
  go_wp2_with fail
  refine (clone_view h hn).mono ?_
  rintro e w1 ⟨a1, c1, b, rfl, v1, hb, hb', g1⟩
  have B1 := bel_start g1
  obtain ⟨off, rfl, hc⟩ := v1.first (by omega)
  rw [hh] at hc
  go_wp2_with fail
  refine (reader_view v1 hb).mono ?_
  rintro e w2 ⟨R, rfl, r2, v2, hbR, hR, g2⟩
  have B2 := bel_none B1 g2
  have hR' : w0.heap.size ≤ R := Nat.le_trans B1.size hR
  clear hc v1 g1 g2
  go_wp2_with fail
  refine (zzlenEnc_short r2 v2 hl hbR (by omega)).mono ?_
  rintro e w3 ⟨rfl, r3, g3⟩
  have B3 := bel_some B2 g3 hR'
  go_wp2_with fail
  refine (bad_any r3).mono ?_
  rintro e w4 ⟨rfl, rfl⟩
  go_wp2_with fail
  refine (rest_any r3).mono ?_
  rintro e w5 ⟨rfl, rfl⟩
  go_wp2
  go_ret
  exact ⟨rfl, B3⟩

theorem whole_fc {w : World} {ao : Option Addr} {n c : Nat} {l : List Int} (h : Arg w ao n l) (hn : n ≤ 1048576) (hs : 3 ≤ n)  (hh : l.getD 0 0 = 252)  (hneed : need l = 3) (hby : ∀ x ∈ l, 0 ≤ x ∧ x ≤ 255) :
    Calls Try.prog 6 #[.slice ao n c] w fun e w' => e = .returned (.bool true) ∧ Below w.heap.size w w' := by
  have hl := h.1
  have h1 : 1 ≤ n := by omega
  have HN : Hid (need l = 3) := hneed
  have HH : Hid (l.getD 0 0 = 252) := hh
  have hd : decide ((n : Int) < 3) = false := decide_eq_false (by omega)
  clear hneed hh
  go_enter Try.func6, Try.ntmps6
  go_wp2_with fail
  refine (bytes22_yes ao n c w hn).mono ?_
  rintro e w0 ⟨rfl, rfl⟩
  go_wp2_with fail
  refine (clone_view h hn).mono ?_
  rintro e w1 ⟨a1, c1, b, rfl, v1, hb, hb', g1⟩
  have B1 := bel_start g1
  obtain ⟨off, rfl, hc⟩ := v1.first (by omega)
  rw [HH.out] at hc
  go_wp2_with fail
  refine (reader_view v1 hb).mono ?_
  rintro e w2 ⟨R, rfl, r2, v2, hbR, hR, g2⟩
  have B2 := bel_none B1 g2
  have hR' : w0.heap.size ≤ R := Nat.le_trans B1.size hR
  clear hc v1 g1 g2
  go_wp2_with fail
  refine (zzlenEnc_ok r2 v2 hl hbR (by rw [HN.out]; exact hs) hby).mono ?_
  rintro e w3 ⟨rfl, a3, r3, v3, g3⟩
  have B3 := bel_some B2 g3 hR'
  go_wp2_with fail
  refine (bad_any r3).mono ?_
  rintro e w4 ⟨rfl, rfl⟩
  go_wp2
  go_ret
  exact ⟨rfl, B3⟩

theorem whole_fd {w : World} {ao : Option Addr} {n c : Nat} {l : List Int} (h : Arg w ao n l) (hn : n ≤ 1048576) (hs : 4 ≤ n)  (hh : l.getD 0 0 = 253)  (hneed : need l = 4) (hby : ∀ x ∈ l, 0 ≤ x ∧ x ≤ 255) :
    Calls Try.prog 6 #[.slice ao n c] w fun e w' => e = .returned (.bool true) ∧ Below w.heap.size w w' := by
  have hl := h.1
  have h1 : 1 ≤ n := by omega
  have HN : Hid (need l = 4) := hneed
  have HH : Hid (l.getD 0 0 = 253) := hh
  have hd : decide ((n : Int) < 4) = false := decide_eq_false (by omega)
  clear hneed hh
  go_enter Try.func6, Try.ntmps6
  go_wp2_with fail
  refine (bytes22_yes ao n c w hn).mono ?_
  rintro e w0 ⟨rfl, rfl⟩
  go_wp2_with fail
  refine (clone_view h hn).mono ?_
  rintro e w1 ⟨a1, c1, b, rfl, v1, hb, hb', g1⟩
  have B1 := bel_start g1
  obtain ⟨off, rfl, hc⟩ := v1.first (by omega)
  rw [HH.out] at hc
  go_wp2_with fail
  refine (reader_view v1 hb).mono ?_
  rintro e w2 ⟨R, rfl, r2, v2, hbR, hR, g2⟩
  have B2 := bel_none B1 g2
  have hR' : w0.heap.size ≤ R := Nat.le_trans B1.size hR
  clear hc v1 g1 g2
  go_wp2_with fail
  refine (zzlenEnc_ok r2 v2 hl hbR (by rw [HN.out]; exact hs) hby).mono ?_
  rintro e w3 ⟨rfl, a3, r3, v3, g3⟩
  have B3 := bel_some B2 g3 hR'
  go_wp2_with fail
  refine (bad_any r3).mono ?_
  rintro e w4 ⟨rfl, rfl⟩
  go_wp2
  go_ret
  exact ⟨rfl, B3⟩

theorem whole_fe {w : World} {ao : Option Addr} {n c : Nat} {l : List Int} (h : Arg w ao n l) (hn : n ≤ 1048576) (hs : 9 ≤ n)  (hh : l.getD 0 0 = 254)  (hneed : need l = 9) (hby : ∀ x ∈ l, 0 ≤ x ∧ x ≤ 255) :
    Calls Try.prog 6 #[.slice ao n c] w fun e w' => e = .returned (.bool true) ∧ Below w.heap.size w w' := by
  have hl := h.1
  have h1 : 1 ≤ n := by omega
  have HN : Hid (need l = 9) := hneed
  have HH : Hid (l.getD 0 0 = 254) := hh
  have hd : decide ((n : Int) < 9) = false := decide_eq_false (by omega)
  clear hneed hh
  go_enter Try.func6, Try.ntmps6
  go_wp2_with fail
  refine (bytes22_yes ao n c w hn).mono ?_
  rintro e w0 ⟨rfl, rfl⟩
  go_wp2_with fail
  refine (clone_view h hn).mono ?_
  rintro e w1 ⟨a1, c1, b, rfl, v1, hb, hb', g1⟩
  have B1 := bel_start g1
  obtain ⟨off, rfl, hc⟩ := v1.first (by omega)
  rw [HH.out] at hc
  go_wp2_with fail
  refine (reader_view v1 hb).mono ?_
  rintro e w2 ⟨R, rfl, r2, v2, hbR, hR, g2⟩
  have B2 := bel_none B1 g2
  have hR' : w0.heap.size ≤ R := Nat.le_trans B1.size hR
  clear hc v1 g1 g2
  go_wp2_with fail
  refine (zzlenEnc_ok r2 v2 hl hbR (by rw [HN.out]; exact hs) hby).mono ?_
  rintro e w3 ⟨rfl, a3, r3, v3, g3⟩
  have B3 := bel_some B2 g3 hR'
  go_wp2_with fail
  refine (bad_any r3).mono ?_
  rintro e w4 ⟨rfl, rfl⟩
  go_wp2
  go_ret
  exact ⟨rfl, B3⟩

theorem whole_one {w : World} {ao : Option Addr} {n c : Nat} {l : List Int} (h : Arg w ao n l) (hn : n ≤ 1048576) (hs : 1 ≤ n) (x : Int) (hx : 0 ≤ x ∧ x ≤ 255) (hh : l.getD 0 0 = x) (k1 : (x == 252) = false) (k2 : (x == 253) = false) (k3 : (x == 254) = false) (hneed : need l = 1) (hby : ∀ x ∈ l, 0 ≤ x ∧ x ≤ 255) :
    Calls Try.prog 6 #[.slice ao n c] w fun e w' => e = .returned (.bool true) ∧ Below w.heap.size w w' := by
  have hl := h.1
  have h1 : 1 ≤ n := by omega
  have HN : Hid (need l = 1) := hneed
  have HH : Hid (l.getD 0 0 = x) := hh
  have hd : decide ((n : Int) < 1) = false := decide_eq_false (by omega)
  clear hneed hh
  go_enter Try.func6, Try.ntmps6
  go_wp2_with fail
  refine (bytes22_yes ao n c w hn).mono ?_
  rintro e w0 ⟨rfl, rfl⟩
  go_wp2_with fail
  refine (clone_view h hn).mono ?_
  rintro e w1 ⟨a1, c1, b, rfl, v1, hb, hb', g1⟩
  have B1 := bel_start g1
  obtain ⟨off, rfl, hc⟩ := v1.first (by omega)
  rw [HH.out] at hc
  go_wp2_with fail
  refine (reader_view v1 hb).mono ?_
  rintro e w2 ⟨R, rfl, r2, v2, hbR, hR, g2⟩
  have B2 := bel_none B1 g2
  have hR' : w0.heap.size ≤ R := Nat.le_trans B1.size hR
  clear hc v1 g1 g2
  go_wp2_with fail
  refine (zzlenEnc_ok r2 v2 hl hbR (by rw [HN.out]; exact hs) hby).mono ?_
  rintro e w3 ⟨rfl, a3, r3, v3, g3⟩
  have B3 := bel_some B2 g3 hR'
  go_wp2_with fail
  refine (bad_any r3).mono ?_
  rintro e w4 ⟨rfl, rfl⟩
  go_wp2
  go_ret
  exact ⟨rfl, B3⟩

theorem cut_none {w : World} {ao : Option Addr} {c : Nat} {l : List Int} (h : Arg w ao 0 l) :
    Calls Try.prog 6 #[.slice ao 0 c] w fun e w' => e = .returned (.bool true) ∧ Below w.heap.size w w' := by
  have hl := h.1
  have hp := need_pos l
  go_enter Try.func6, Try.ntmps6
  go_wp2_with fail
  refine (bytes22_yes ao 0 c w (by omega)).mono ?_
  rintro e w0 ⟨rfl, rfl⟩
  go_wp2_with fail
  refine (clone_view h (by omega)).mono ?_
  rintro e w1 ⟨a1, c1, b, rfl, v1, hb, hb', g1⟩
  have B1 := bel_start g1
  go_wp2_with fail
  refine (reader_view v1 hb).mono ?_
  rintro e w2 ⟨R, rfl, r2, v2, hbR, hR, g2⟩
  have B2 := bel_none B1 g2
  have hR' : w0.heap.size ≤ R := Nat.le_trans B1.size hR
  clear v1 g1 g2
  go_wp2_with fail
  refine (zzlenEnc_short r2 v2 hl hbR (by omega)).mono ?_
  rintro e w3 ⟨rfl, r3, g3⟩
  have B3 := bel_some B2 g3 hR'
  go_wp2_with fail
  refine (bad_any r3).mono ?_
  rintro e w4 ⟨rfl, rfl⟩
  go_wp2_with fail
  refine (rest_any r3).mono ?_
  rintro e w5 ⟨rfl, rfl⟩
  go_wp2
  go_ret
  exact ⟨rfl, B3⟩

theorem wide {w : World} {ao : Option Addr} {n c : Nat} (hn : 1048576 < n) :
    Calls Try.prog 6 #[.slice ao n c] w fun e w' => e = .returned (.bool true) ∧ Below w.heap.size w w' := by
  go_enter Try.func6, Try.ntmps6
  go_wp2_with fail
  refine (bytes22_no ao n c w hn).mono ?_
  rintro e w0 ⟨rfl, rfl⟩
  go_wp2
  go_ret
  exact ⟨rfl, Below.refl _ _⟩

theorem walk (a0 : Option Addr) (len0 cap0 : Nat) (z0 : List Int) (w : World) (w0 : IsRow .u8 w a0 len0 cap0 z0) :
    Calls Try.prog 6 #[.slice a0 len0 cap0] w fun e w' => e = .returned (.bool true) ∧ Below w.heap.size w w' := by
  obtain ⟨ha, hby, _⟩ := w0.arg
  obtain ⟨l, hl⟩ : ∃ l, l = z0.take len0 := ⟨_, rfl⟩
  rw [← hl] at ha hby
  by_cases hn : 1048576 < len0
  · exact wide hn
  · have hn' : len0 ≤ 1048576 := by omega
    by_cases h0 : len0 = 0
    · subst h0
      exact cut_none ha
    · have hll := ha.1
      have hx := hby (l.getD 0 0) (by
        have : l.getD 0 0 = l[0]'(by omega) := by simp [List.getD, show 0 < l.length by omega]
        rw [this]; exact List.getElem_mem _)
      rcases need_cases l with ⟨e, hd⟩ | ⟨e, hd⟩ | ⟨e, hd⟩ | ⟨k1, k2, k3, hd⟩
      · by_cases hs : len0 < 3
        · exact cut_fc ha hn' (by omega) hs e
        · exact whole_fc ha hn' (by omega) e hd hby
      · by_cases hs : len0 < 4
        · exact cut_fd ha hn' (by omega) hs e
        · exact whole_fd ha hn' (by omega) e hd hby
      · by_cases hs : len0 < 9
        · exact cut_fe ha hn' (by omega) hs e
        · exact whole_fe ha hn' (by omega) e hd hby
      · exact whole_one ha hn' (by omega) _ hx rfl (by simpa using k1) (by simpa using k2) (by simpa using k3) hd hby

/-! ### THE ROW's STEP: WRITTEN OUT: LEAVE IT -/
set_option maxRecDepth 100000 in
theorem lifted (os : Os) (started : os.Started) (H : Type) (enc : TypeId × Value → H) :
    ReturnsInHanded {} Try.checked os 6 .any (Rows.fnLenEncIntRefusesExactlyTruncatedSpec.pre6 enc Try.prog Try.f6 Rows.fnLenEncIntRefusesExactlyTruncatedRow.domain false) (Rows.fnLenEncIntRefusesExactlyTruncatedSpec.post enc Try.prog Try.f6 false true false false) := by
  refine returnsInHanded_of_change (C := Try.checked) own started (by kernel_rfl) Try.func6
    (ChangeSpec.witness6 (enc := enc) (C := Try.checked) false ⟨#[], #[.slice none 0 0], []⟩ 8 (by kernel_rfl) (by kernel_rfl) (by kernel_rfl) (by kernel_rfl)) ?_
  intro W base args ds gs before hval0 hW hcnd _
  have hval : ∀ (j : Nat) t v, Try.f6.params[j]? = some t → args[j]? = some v → Value.okWide Try.prog W .any base t v := hval0
  have hW' := hW
  obtain ⟨p, q, hA0, hV, rfl, hfz, hnd⟩ := hW
  have hA : DataW.TrodAll enc Try.prog W 0 (fun _ => true) true Try.f6.params.toList args.toList ds p := hA0
  rw [Try.params6] at hA hval
  obtain ⟨v0, vs0, d0, ds0, p0, q0, hargs, rfl, rfl, h0, r0⟩ := trodAll_cons hA
  obtain ⟨rfl, rfl, rfl⟩ := trodAll_nil r0
  obtain rfl : args = #[v0] := by cases args; simp_all
  obtain ⟨rfl, rfl⟩ := trodVars_none hV
  obtain ⟨a0, len0, cap0, rfl⟩ := okWide_slice Try.underlying22 (hval 0 22 v0 rfl rfl)
  have k0 := h0
  have lt0 : ∀ x ∈ p0, x.block < W.heap.size := by obtain ⟨m, hm⟩ := k0; exact DataW.trod_lt m _ _ _ hm
  obtain ⟨z0, w0⟩ : ∃ zs, IsRow .u8 W a0 len0 cap0 zs := by
    obtain ⟨fuel, hf⟩ := h0
    rcases open_ints Try.underlying22 Try.underlying5 (by kernel_rfl) hf with ⟨hcs, _⟩ | ⟨x, l, c, zs, hcs, _, hl, hm, hz, _, hcell, hwz⟩
    · simp [Value.cells] at hcs
      obtain ⟨rfl, rfl, rfl⟩ := hcs
      exact ⟨[], .inl ⟨rfl, rfl, rfl, rfl⟩⟩
    · simp [Value.cells] at hcs
      obtain ⟨rfl, rfl, rfl⟩ := hcs
      exact ⟨zs, .inr ⟨_, rfl, hl, hm, by simpa using hz, hcell, hwz⟩⟩
  clear hA0 hval0
  refine (walk a0 len0 cap0 z0 W w0).mono fun e W' ⟨he, bel⟩ => ?_
  subst he
  exact ⟨_, rfl, _, _, _, [], _, [], hW', trodAll_mk1 (shut_bool Try.underlying4 _), (trodAll_cons_mk (Below.trod laidOut (by kernel_rfl) (of_decide_eq_true (by kernel_rfl)) k0 bel lt0) trodAll_mk0), rfl, bel.frame _, fun h => by cases h⟩

theorem over : Rows.fnLenEncIntRefusesExactlyTruncatedRow.holds Try.pinned (OpenSpec.ofChange Rows.fnLenEncIntRefusesExactlyTruncatedSpec) :=
  OpenClaim.holds_of_wide 6 Try.f6 rfl rfl rfl rfl rfl rfl rfl ⟨rfl, rfl, rfl, rfl, rfl⟩ rfl rfl rfl rfl rfl (by kernel_rfl) Try.func6 (by kernel_rfl)
    (of_decide_eq_true (by kernel_rfl)) (by unfold Func.isWrapper; first | (rw [if_pos (by decide +kernel)]; kernel_rfl) | (rw [if_neg (by decide +kernel)]; exact ⟨rfl, rfl⟩))
    (fun os started H enc _ => lifted os started H enc)

/-- ████ THE STATEMENT ████ -/
theorem proved : Rows.FnLenEncIntRefusesExactlyTruncatedSaid := over
end Go.Proofs.Qxb6001749a.fnLenEncIntRefusesExactlyTruncated
