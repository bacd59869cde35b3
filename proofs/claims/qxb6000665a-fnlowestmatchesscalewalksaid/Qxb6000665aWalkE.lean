/-
  CONTRACTS, FIFTH PART: (*RatingFloor).Lowest (12).
-/
import Derived.Test.Qxb6000665aWalkD
import Derived.Test.Qxb6000665aPlain
import Derived.Deep.QuietTactic
import Derived.BigQuiet
namespace Go.Proofs.Qxb6000665a
open Go.RowKit
set_option linter.unusedVariables false

set_option maxHeartbeats 800000 in
theorem lowest_any {F G n n0 c0 n3 c3 : Nat} {a0 a3 : Option Addr} {sc ex ag gr : List ByteArray} {W : World} (hn : n ≤ 4096) (hn0 : n0 ≤ 4096) (hF : F < W.heap.size) (hG : G < W.heap.size)
    (hF0 : W.cell? ⟨F, 0, none⟩ = some (.slice a0 n0 c0)) (hr : Hid (∀ i, i < n → W.cell? ⟨G, i * 2, none⟩ = some (.string (at_ ag i)) ∧ W.cell? ⟨G, i * 2 + 1, none⟩ = some (.string (at_ gr i))))
    (hS : Hid (∀ v, Below W.heap.size W v → ∃ b, SView v b a0 c0 sc)) (hX : Hid (∀ v, Below W.heap.size W v → ∃ b, SView v b a3 c3 ex)) (hs0 : Hid (sc.length = n0)) (hx0 : Hid (ex.length = n3)) :
    Calls Try.prog 12 #[.pointer (some ⟨F, 0, none⟩), .slice (some ⟨G, 0, none⟩) n n, .slice a3 n3 c3] W fun e w' => ∃ (g : ByteArray) (P : Int), e = .returned (.tuple #[.string g, .int .i64 P]) ∧ LowR sc ag gr ex n g P ∧ Below W.heap.size W w' := by
  go_enter Try.func12, Try.ntmps12
  go_wp2
  go_loopw [8, 9, 15] (fun g p i wr => ∃ k : Nat, k ≤ n ∧ i = .int .i64 k ∧ ∃ (gs : ByteArray) (P : Int), g = .string gs ∧ p = .int .i64 P ∧ LowI sc ag gr ex k gs P ∧ Below W.heap.size W wr) (fun _ _ i _ => n - (intOf i).toNat)
  case atStart => exact ⟨0, Nat.zero_le _, rfl, _, _, rfl, rfl, LowI.start _ _ _ _ _, Below.refl _ _⟩
  case round =>
    obtain ⟨k, hk, rfl, gs, P, rfl, rfl, hI0, hB⟩ := hrel
    have hPb := hI0.bounds
    rw [hs0.out] at hPb
    have hI := hid hI0
    clear hI0
    by_cases hlt : k < n
    · have g1 := (hB.cell (p := ⟨G, k * 2, none⟩) hG).trans (hr.out k hlt).1
      have g2 := (hB.cell (p := ⟨G, k * 2 + 1, none⟩) hG).trans (hr.out k hlt).2
      have gF := (hB.cell (p := ⟨F, 0, none⟩) hF).trans hF0
      have hFw : F < wr.heap.size := Nat.lt_of_lt_of_le hF hB.size
      obtain ⟨x, hx⟩ : ∃ x, Hid (at_ ag k = x) := ⟨_, rfl⟩
      obtain ⟨y, hy⟩ : ∃ y, Hid (at_ gr k = y) := ⟨_, rfl⟩
      rw [hx.out] at g1
      rw [hy.out] at g2
      have hB1 := hB.alloc hB.size (.cells #[.string x, .string y] 47)
      rcases first_or sc y with hno | ⟨p, hp⟩
      · -- the grade stands not on the scale
        have hI' := hid (hI.out.skip (fun _ q hq => absurd hq.2.1 (by rw [hy.out]; exact hno q hq.1)))
        obtain ⟨bS, vS⟩ := hS.out _ hB1
        have hix := hid (fun q => idx_no (s := y) (vS.drewN q) hs0.out (by rw [← hs0.out]; exact hno))
        clear vS hno
        go_wp2
        go_quiet ((go_at_call 25; exact Calls.quiet_of_same (hix.out _)))
        go_wp2
        go_roundw
        case rel => exact ⟨k + 1, by omega, by go_num, gs, P, rfl, rfl, hI'.out, below_drewN hB1 _⟩
        case measure => simp [intOf]; omega
      · obtain ⟨bS, vS⟩ := hS.out _ hB1
        have hp' := hid hp
        have hpn : p < n0 := by rw [← hs0.out]; exact hp.1
        have hix := hid (fun q => idx_yes (vS.drewN q) hs0.out hp)
        clear vS hp
        by_cases hle : (p : Int) ≤ P
        · -- no lower than what was found
          have hI' := hid (hI.out.skip (fun _ q hq => by rw [hy.out] at hq; have := hq.unique hp'.out; omega))
          go_wp2
          go_quiet ((go_at_call 25; exact Calls.quiet_of_same (hix.out _)))
          go_wp2
          go_roundw
          case rel => exact ⟨k + 1, by omega, by go_num, gs, P, rfl, rfl, hI'.out, below_drewN hB1 _⟩
          case measure => simp [intOf]; omega
        · obtain ⟨bX, vX⟩ := hX.out _ hB1
          rcases first_or ex x with hel | ⟨e, he⟩
          · -- taken
            have hI' := hid (hI.out.take (by rw [hy.out]; exact hp'.out) (by omega) (fun i hi => by rw [hx.out]; exact hel i hi))
            rw [hy.out] at hI'
            have hcx := hid (fun q => con_no (s := x) (vX.drewN q) hx0.out (by rw [← hx0.out]; exact hel))
            clear vX hel
            go_wp2
            go_quiet ((go_at_call 25; exact Calls.quiet_of_same (hix.out _)))
            go_wp2_with (go_at_call 26; refine Calls.mono (hcx.out _) ?_; rintro e w' ⟨rfl, rfl⟩)
            go_roundw
            case rel => exact ⟨k + 1, by omega, by go_num, y, p, rfl, rfl, hI'.out, below_drewN hB1 _⟩
            case measure => simp [intOf]; omega
          · -- excluded
            have hI' := hid (hI.out.skip (fun h q hq => absurd he.2.1 (by rw [← hx.out]; exact h e he.1)))
            have hcx := hid (fun q => con_yes (vX.drewN q) hx0.out he)
            clear vX he
            go_wp2
            go_quiet ((go_at_call 25; exact Calls.quiet_of_same (hix.out _)))
            go_wp2_with (go_at_call 26; refine Calls.mono (hcx.out _) ?_; rintro e w' ⟨rfl, rfl⟩)
            go_roundw
            case rel => exact ⟨k + 1, by omega, by go_num, gs, P, rfl, rfl, hI'.out, below_drewN hB1 _⟩
            case measure => simp [intOf]; omega
    · obtain rfl : k = n := by omega
      have gF := (hB.cell (p := ⟨F, 0, none⟩) hF).trans hF0
      by_cases hneg : P < 0
      · have hR := hid (hI.out.none hneg)
        rw [hs0.out] at hR
        go_wp2
        go_region
        all_goals go_wp2
        go_ret2
        exact ⟨_, _, rfl, hR.out, below_drewN hB _⟩
      · have hR := hid (hI.out.some hneg)
        go_wp2
        go_ret2
        exact ⟨_, _, rfl, hR.out, hB⟩

end Go.Proofs.Qxb6000665a
