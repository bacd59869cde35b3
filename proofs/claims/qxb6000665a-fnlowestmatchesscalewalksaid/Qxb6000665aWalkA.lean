/-
  CONTRACTS, FIRST PART: hasString (14), slices.Index (25), slices.Contains (26) at strings; listBytes (9).
-/
import Derived.Test.Qxb6000665aKit
namespace Go.Proofs.Qxb6000665a
open Go.RowKit
set_option linter.unusedVariables false

theorem bne_str {a b : ByteArray} (h : a ≠ b) : (a.toList == b.toList) = false := by
  cases h' : (a.toList == b.toList) with
  | false => rfl
  | true => exact absurd ((str_beq a b).1 h') h

/-! ### hasString (14) -/
theorem has_empty (ao : Option Addr) (c : Nat) (s : ByteArray) (w : World) :
    Calls Try.prog 14 #[.slice ao 0 c, .string s] w fun e w' => e = .returned (.bool false) ∧ w' = w := by
  go_enter Try.func14, Try.ntmps14
  go_wp2
  refine wp_loop_rounds 1 ?_
  rw [rounds_succ]
  go_wp2
  go_ret
  exact ⟨rfl, rfl⟩

theorem has_not (b off n c : Nat) (s : ByteArray) (l : List ByteArray) (w : World) (hn : n ≤ 9223372036854775807)
    (hc : Hid (∀ i, i < n → w.cell? ⟨b, off + i, none⟩ = some (.string (at_ l i)))) (h0 : Hid (∀ i, i < n → at_ l i ≠ s)) :
    Calls Try.prog 14 #[.slice (some ⟨b, off, none⟩) n c, .string s] w fun e w' => e = .returned (.bool false) ∧ w' = w := by
  go_enter Try.func14, Try.ntmps14
  go_wp2
  go_loop [5] (fun i => ∃ k : Nat, k ≤ n ∧ i = .int .i64 k) (fun i => n - (intOf i).toNat)
  case atStart => exact ⟨0, Nat.zero_le _, rfl⟩
  case round =>
    obtain ⟨k, hk, rfl⟩ := hrel
    by_cases hlt : k < n
    · have gx := hc.out k hlt
      have hne := bne_str (h0.out k hlt)
      generalize at_ l k = x at gx hne
      go_wp2
      go_round
      case rel => exact ⟨k + 1, by omega, by go_num⟩
      case measure => simp [intOf]; omega
    · go_wp2
      go_ret
      exact ⟨rfl, rfl⟩

theorem has_at (b off n c p : Nat) (s : ByteArray) (l : List ByteArray) (w : World) (hn : n ≤ 9223372036854775807) (hp : p < n)
    (hc : Hid (∀ i, i < n → w.cell? ⟨b, off + i, none⟩ = some (.string (at_ l i)))) (h0 : Hid (∀ i, i < p → at_ l i ≠ s)) (h1 : Hid (at_ l p = s)) :
    Calls Try.prog 14 #[.slice (some ⟨b, off, none⟩) n c, .string s] w fun e w' => e = .returned (.bool true) ∧ w' = w := by
  go_enter Try.func14, Try.ntmps14
  go_wp2
  go_loop [5] (fun i => ∃ k : Nat, k ≤ p ∧ i = .int .i64 k) (fun i => n - (intOf i).toNat)
  case atStart => exact ⟨0, Nat.zero_le _, rfl⟩
  case round =>
    obtain ⟨k, hk, rfl⟩ := hrel
    by_cases hlt : k < p
    · have gx := hc.out k (by omega)
      have hne := bne_str (h0.out k hlt)
      generalize at_ l k = x at gx hne
      go_wp2
      go_round
      case rel => exact ⟨k + 1, by omega, by go_num⟩
      case measure => simp [intOf]; omega
    · obtain rfl : k = p := by omega
      have gx := hc.out k hp
      rw [h1.out] at gx
      go_wp2
      go_ret
      exact ⟨rfl, rfl⟩

theorem has_no {w : World} {b n c : Nat} {ao : Option Addr} {l : List ByteArray} {s : ByteArray} (hv : SView w b ao c l) (hl : l.length = n) (h0 : ∀ i, i < n → at_ l i ≠ s) :
    Calls Try.prog 14 #[.slice ao n c, .string s] w fun e w' => e = .returned (.bool false) ∧ w' = w := by
  have hs := hv.small
  rcases hv with ⟨rfl, rfl, rfl⟩ | ⟨off, rfl, _, _, hc⟩
  · obtain rfl : n = 0 := by simpa using hl.symm
    exact has_empty none 0 s w
  · exact has_not b off n c s l w (by omega) (by rw [← hl]; exact hc) h0

theorem has_yes {w : World} {b n c : Nat} {ao : Option Addr} {l : List ByteArray} {s : ByteArray} {p : Nat} (hv : SView w b ao c l) (hl : l.length = n) (hp : First l s p) :
    Calls Try.prog 14 #[.slice ao n c, .string s] w fun e w' => e = .returned (.bool true) ∧ w' = w := by
  have hs := hv.small
  rcases hv with ⟨rfl, rfl, rfl⟩ | ⟨off, rfl, _, _, hc⟩
  · have := hp.1; simp at this
  · exact has_at b off n c p s l w (by omega) (by rw [← hl]; exact hp.1) (by rw [← hl]; exact hc) hp.2.2 hp.2.1

/-! ### slices.Index (25) -/
theorem index_empty (ao : Option Addr) (c : Nat) (s : ByteArray) (w : World) :
    Calls Try.prog 25 #[.slice ao 0 c, .string s] w fun e w' => e = .returned (.int .i64 (-1)) ∧ w' = w := by
  go_enter Try.func25, Try.ntmps25
  go_wp2
  refine wp_loop_rounds 1 ?_
  rw [rounds_succ]
  go_wp2
  go_ret
  exact ⟨rfl, rfl⟩

theorem index_not (b off n c : Nat) (s : ByteArray) (l : List ByteArray) (w : World) (hn : n ≤ 9223372036854775807)
    (hc : Hid (∀ i, i < n → w.cell? ⟨b, off + i, none⟩ = some (.string (at_ l i)))) (h0 : Hid (∀ i, i < n → at_ l i ≠ s)) :
    Calls Try.prog 25 #[.slice (some ⟨b, off, none⟩) n c, .string s] w fun e w' => e = .returned (.int .i64 (-1)) ∧ w' = w := by
  go_enter Try.func25, Try.ntmps25
  go_wp2
  go_loop [8] (fun i => ∃ k : Nat, k ≤ n ∧ i = .int .i64 k) (fun i => n - (intOf i).toNat)
  case atStart => exact ⟨0, Nat.zero_le _, rfl⟩
  case round =>
    obtain ⟨k, hk, rfl⟩ := hrel
    by_cases hlt : k < n
    · have gx := hc.out k hlt
      have hne := bne_str (Ne.symm (h0.out k hlt))
      generalize at_ l k = x at gx hne
      go_wp2
      go_round
      case rel => exact ⟨k + 1, by omega, by go_num⟩
      case measure => simp [intOf]; omega
    · go_wp2
      go_ret
      exact ⟨rfl, rfl⟩

theorem index_at (b off n c p : Nat) (s : ByteArray) (l : List ByteArray) (w : World) (hn : n ≤ 9223372036854775807) (hp : p < n)
    (hc : Hid (∀ i, i < n → w.cell? ⟨b, off + i, none⟩ = some (.string (at_ l i)))) (h0 : Hid (∀ i, i < p → at_ l i ≠ s)) (h1 : Hid (at_ l p = s)) :
    Calls Try.prog 25 #[.slice (some ⟨b, off, none⟩) n c, .string s] w fun e w' => e = .returned (.int .i64 p) ∧ w' = w := by
  go_enter Try.func25, Try.ntmps25
  go_wp2
  go_loop [8] (fun i => ∃ k : Nat, k ≤ p ∧ i = .int .i64 k) (fun i => n - (intOf i).toNat)
  case atStart => exact ⟨0, Nat.zero_le _, rfl⟩
  case round =>
    obtain ⟨k, hk, rfl⟩ := hrel
    by_cases hlt : k < p
    · have gx := hc.out k (by omega)
      have hne := bne_str (Ne.symm (h0.out k hlt))
      generalize at_ l k = x at gx hne
      go_wp2
      go_round
      case rel => exact ⟨k + 1, by omega, by go_num⟩
      case measure => simp [intOf]; omega
    · obtain rfl : k = p := by omega
      have gx := hc.out k hp
      rw [h1.out] at gx
      go_wp2
      go_ret
      exact ⟨rfl, rfl⟩

theorem idx_no {w : World} {b n c : Nat} {ao : Option Addr} {l : List ByteArray} {s : ByteArray} (hv : SView w b ao c l) (hl : l.length = n) (h0 : ∀ i, i < n → at_ l i ≠ s) :
    Calls Try.prog 25 #[.slice ao n c, .string s] w fun e w' => e = .returned (.int .i64 (-1)) ∧ w' = w := by
  have hs := hv.small
  rcases hv with ⟨rfl, rfl, rfl⟩ | ⟨off, rfl, _, _, hc⟩
  · obtain rfl : n = 0 := by simpa using hl.symm
    exact index_empty none 0 s w
  · exact index_not b off n c s l w (by omega) (by rw [← hl]; exact hc) h0

theorem idx_yes {w : World} {b n c : Nat} {ao : Option Addr} {l : List ByteArray} {s : ByteArray} {p : Nat} (hv : SView w b ao c l) (hl : l.length = n) (hp : First l s p) :
    Calls Try.prog 25 #[.slice ao n c, .string s] w fun e w' => e = .returned (.int .i64 p) ∧ w' = w := by
  have hs := hv.small
  rcases hv with ⟨rfl, rfl, rfl⟩ | ⟨off, rfl, _, _, hc⟩
  · have := hp.1; simp at this
  · exact index_at b off n c p s l w (by omega) (by rw [← hl]; exact hp.1) (by rw [← hl]; exact hc) hp.2.2 hp.2.1

/-! ### slices.Contains (26) -/
theorem con_no {w : World} {b n c : Nat} {ao : Option Addr} {l : List ByteArray} {s : ByteArray} (hv : SView w b ao c l) (hl : l.length = n) (h0 : ∀ i, i < n → at_ l i ≠ s) :
    Calls Try.prog 26 #[.slice ao n c, .string s] w fun e w' => e = .returned (.bool false) ∧ w' = w := by
  have H := hid (idx_no (s := s) hv hl h0)
  clear hv hl h0
  go_enter Try.func26, Try.ntmps26
  go_wp2_with (go_at_call 25; refine Calls.mono H.out ?_; rintro e w' ⟨rfl, rfl⟩)
  go_ret
  exact ⟨rfl, rfl⟩

theorem con_yes {w : World} {b n c : Nat} {ao : Option Addr} {l : List ByteArray} {s : ByteArray} {p : Nat} (hv : SView w b ao c l) (hl : l.length = n) (hp : First l s p) :
    Calls Try.prog 26 #[.slice ao n c, .string s] w fun e w' => e = .returned (.bool true) ∧ w' = w := by
  have H := hid (idx_yes hv hl hp)
  have hp0 : (0 : Int) ≤ (p : Int) := by omega
  clear hv hl hp
  go_enter Try.func26, Try.ntmps26
  go_wp2_with (go_at_call 25; refine Calls.mono H.out ?_; rintro e w' ⟨rfl, rfl⟩)
  go_ret
  exact ⟨ret_bool (by simp), rfl⟩

end Go.Proofs.Qxb6000665a
