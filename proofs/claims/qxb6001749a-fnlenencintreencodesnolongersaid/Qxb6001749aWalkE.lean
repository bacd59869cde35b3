/-
  CONTRACTS, FIFTH PART: ZZAppendLenEncInt onto nil, zzb1LegalHead (19); the plain law of the codes.
-/
import Derived.Test.Qxb6001749aWalkD
namespace Go.Proofs.Qxb6001749a
open Go.RowKit
set_option linter.unusedVariables false

theorem enc_cases (x : Int) : (x < 251 ∧ enc x = [x]) ∨ (251 ≤ x ∧ x < 65536 ∧ enc x = [252, x % 256, x / 256]) ∨
    (65536 ≤ x ∧ x < 16777216 ∧ enc x = [253, x % 256, x / 256 % 256, x / 65536]) ∨
    (16777216 ≤ x ∧ enc x = [254, x % 256, x / 256 % 256, x / 65536 % 256, x / 16777216 % 256, x / 4294967296 % 256, x / 1099511627776 % 256, x / 281474976710656 % 256, x / 72057594037927936]) := by
  unfold enc
  by_cases a1 : x < 251
  · exact .inl ⟨a1, by rw [if_pos a1]⟩
  · by_cases a2 : x < 65536
    · exact .inr (.inl ⟨by omega, a2, by rw [if_neg a1, if_pos a2]⟩)
    · by_cases a3 : x < 16777216
      · exact .inr (.inr (.inl ⟨by omega, a3, by rw [if_neg a1, if_neg a2, if_pos a3]⟩))
      · exact .inr (.inr (.inr ⟨by omega, by rw [if_neg a1, if_neg a2, if_neg a3]⟩))

theorem enc_pos (x : Int) : 1 ≤ (enc x).length ∧ (enc x).length ≤ 9 := by
  rcases enc_cases x with ⟨_, e⟩ | ⟨_, _, e⟩ | ⟨_, _, e⟩ | ⟨_, e⟩ <;> rw [e] <;> simp

theorem enc_mono (x y : Int) (h : x ≤ y) : (enc x).length ≤ (enc y).length := by
  rcases enc_cases x with ⟨_, e⟩ | ⟨_, _, e⟩ | ⟨_, _, e⟩ | ⟨_, e⟩ <;> rcases enc_cases y with ⟨_, f⟩ | ⟨_, _, f⟩ | ⟨_, _, f⟩ | ⟨_, f⟩ <;> rw [e, f] <;> simp <;> omega

theorem enc_byte (x : Int) (h0 : 0 ≤ x) (h1 : x < 18446744073709551616) : ∀ c ∈ enc x, 0 ≤ c ∧ c ≤ 255 := by
  rcases enc_cases x with ⟨_, e⟩ | ⟨_, _, e⟩ | ⟨_, _, e⟩ | ⟨_, e⟩ <;> rw [e] <;> intro c hc <;> simp at hc <;> omega

/-- The code's head tells its length; what is read back is the number; nothing is left over. -/
theorem enc_need (x : Int) (h0 : 0 ≤ x) (t : List Int) : need (enc x ++ t) = (enc x).length := by
  rcases enc_cases x with ⟨_, e⟩ | ⟨_, _, e⟩ | ⟨_, _, e⟩ | ⟨_, e⟩ <;> rw [e]
  · have a : ¬ x = 252 := by omega
    have b : ¬ x = 253 := by omega
    have c : ¬ x = 254 := by omega
    simp [need, a, b, c]
  all_goals simp [need]

theorem enc_val (x : Int) (h0 : 0 ≤ x) (h1 : x < 18446744073709551616) (t : List Int) : val (enc x ++ t) = x := by
  have hn := enc_need x h0 t
  unfold val
  rw [hn]
  rcases enc_cases x with ⟨_, e⟩ | ⟨_, _, e⟩ | ⟨_, _, e⟩ | ⟨_, e⟩ <;> rw [e] <;> simp [le] <;> omega

theorem enc_inj (x y : Int) (hx0 : 0 ≤ x) (hx1 : x < 18446744073709551616) (hy0 : 0 ≤ y) (hy1 : y < 18446744073709551616) (h : enc x = enc y) : x = y := by
  have a := enc_val x hx0 hx1 []
  have b := enc_val y hy0 hy1 []
  rw [h] at a
  rw [← a, b]

/-- The head of a code. -/
theorem enc_head (x : Int) (h0 : 0 ≤ x) : ((enc x).length = 1 ∧ 0 ≤ (enc x).getD 0 0 ∧ (enc x).getD 0 0 < 251 ∧ (enc x).getD 0 0 = x) ∨
    (((enc x).length = 3 ∨ (enc x).length = 4 ∨ (enc x).length = 9) ∧ 252 ≤ (enc x).getD 0 0 ∧ (enc x).getD 0 0 ≤ 254 ∧ 251 ≤ x) := by
  rcases enc_cases x with ⟨_, e⟩ | ⟨_, _, e⟩ | ⟨_, _, e⟩ | ⟨_, e⟩ <;> rw [e] <;> simp <;> omega

/-- The code alone, in memory of its own. -/
theorem zzappend_nil {w : World} (x : Int) (nx : Nat) (hnx : Hid ((enc x).length = nx)) (h0 : 0 ≤ x) (h1 : x < 18446744073709551616) :
    Calls Try.prog 13 #[.slice none 0 0, .int .u64 x] w fun e w' => ∃ b cap : Nat, e = .returned (.slice (some ⟨b, 0, none⟩) nx cap) ∧ View w' b (some ⟨b, 0, none⟩) cap (enc x) ∧ w.heap.size ≤ b ∧ b < w'.heap.size ∧ w.grownBy w' none := by
  refine (zzappend_any (l := []) x (World.ownsRow_nil w w.heap.size 5 1) (Nat.le_refl _) (by omega) h0 h1).mono ?_
  rintro e w' ⟨ao', cap', rfl, hown, hg⟩
  rw [Nat.zero_add, List.nil_append, hnx.out] at hown
  rw [Nat.zero_add, hnx.out]
  have hp := enc_pos x
  rw [hnx.out] at hp
  obtain ⟨hn, b, hR, hb, hv, hlt⟩ := View.of_owns hown w'.heap.size (Nat.le_refl _)
  rcases hown.2 with ⟨_, h⟩ | ⟨g, cap, cur, he, hg', hh, _⟩
  · omega
  · simp at he
    obtain ⟨rfl, rfl⟩ := he
    have hb' : b = g := by
      rcases hv with ⟨h, _⟩ | ⟨off, h, _⟩
      · cases h
      · simp at h; omega
    subst hb'
    exact ⟨b, cap', rfl, hv, hb, by rcases hlt with h | h; cases h; exact h, hg⟩

/-! ### zzb1LegalHead (19) -/
theorem legal_one (b off c : Nat) (x : Int) (w : World) (hc : w.cell? ⟨b, off, none⟩ = some (.int .u8 x)) (h0 : 0 ≤ x) (h1 : x < 251) :
    Calls Try.prog 19 #[.slice (some ⟨b, off, none⟩) 1 c] w fun e w' => e = .returned (.bool true) ∧ w' = w := by
  have k1 : (x == 251) = false := by simp; omega
  have k2 : (x == 255) = false := by simp; omega
  go_enter Try.func19, Try.ntmps19
  go_wp2
  go_ret
  exact ⟨ret_bool (by simp), rfl⟩

theorem legal_more (b off c n : Nat) (x : Int) (w : World) (hc : w.cell? ⟨b, off, none⟩ = some (.int .u8 x)) (hn : n = 3 ∨ n = 4 ∨ n = 9) (h0 : 252 ≤ x) (h1 : x ≤ 254) :
    Calls Try.prog 19 #[.slice (some ⟨b, off, none⟩) n c] w fun e w' => e = .returned (.bool true) ∧ w' = w := by
  have k1 : (x == 251) = false := by simp; omega
  have k2 : (x == 255) = false := by simp; omega
  rcases hn with rfl | rfl | rfl
  all_goals
    go_enter Try.func19, Try.ntmps19
    go_wp2
    go_ret
    exact ⟨ret_bool (by simp; omega), rfl⟩

theorem legal_enc {w : World} {b cap nx : Nat} (x : Int) (hnx : Hid ((enc x).length = nx)) (h0 : 0 ≤ x) (hv : View w b (some ⟨b, 0, none⟩) cap (enc x)) :
    Calls Try.prog 19 #[.slice (some ⟨b, 0, none⟩) nx cap] w fun e w' => e = .returned (.bool true) ∧ w' = w := by
  obtain ⟨off, ho, hc⟩ := hv.first (enc_pos x).1
  simp at ho
  subst ho
  rcases enc_head x h0 with ⟨hl, g0, g1, _⟩ | ⟨hl, g0, g1, _⟩
  · have : nx = 1 := by rw [← hnx.out, hl]
    subst this
    exact legal_one b 0 cap _ w hc g0 g1
  · rw [hnx.out] at hl
    exact legal_more b 0 cap nx _ w hc hl g0 g1

end Go.Proofs.Qxb6001749a
