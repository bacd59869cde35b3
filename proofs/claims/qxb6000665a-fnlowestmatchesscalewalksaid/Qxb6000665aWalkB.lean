/-
  CONTRACTS, SECOND PART: listBytes (9), zzBytes (8): each answers, and turns nothing.
-/
import Derived.Test.Qxb6000665aWalkA
namespace Go.Proofs.Qxb6000665a
open Go.RowKit
set_option linter.unusedVariables false

/-- A slice of strings that came in: its elements are l. -/
def SArg (w : World) (ao : Option Addr) (n : Nat) (l : List ByteArray) : Prop :=
  l.length = n ∧ (ao = none → n = 0) ∧ (0 < n → ∃ b off, ao = some ⟨b, off, none⟩ ∧ b < w.heap.size ∧ ∀ i, i < n → w.cell? ⟨b, off + i, none⟩ = some (.string (at_ l i)))

/-- It ends in a bool; in an int. -/
def IsB (e : Ending) : Prop := ∃ r : Bool, e = .returned (.bool r)
def IsI (e : Ending) : Prop := ∃ v : Int, e = .returned (.int .i64 v)

theorem list_any {w : World} {ao : Option Addr} {n c : Nat} {l : List ByteArray} (h : Hid (SArg w ao n l)) (hn : n ≤ 9223372036854775807) :
    Calls Try.prog 9 #[.slice ao n c] w fun e w' => IsI e ∧ w' = w := by
  go_enter Try.func9, Try.ntmps9
  go_wp2
  go_loop [3, 4] (fun t i => ∃ k : Nat, k ≤ n ∧ i = .int .i64 k ∧ ∃ v : Int, t = .int .i64 v) (fun _ i => n - (intOf i).toNat)
  case atStart => exact ⟨0, Nat.zero_le _, rfl, _, rfl⟩
  case round =>
    obtain ⟨k, hk, rfl, v, rfl⟩ := hrel
    by_cases hlt : k < n
    · obtain ⟨b, off, rfl, _, hc⟩ := h.out.2.2 (by omega)
      have gx := hc k hlt
      have hsz := hid hc
      clear hc
      generalize at_ l k = x at gx
      go_wp2
      go_round
      case rel => exact ⟨k + 1, by omega, by go_num, _, rfl⟩
      case measure => simp [intOf]; omega
    · go_wp2
      go_ret
      exact ⟨⟨_, rfl⟩, rfl⟩

set_option maxHeartbeats 1600000 in
theorem bytes_any {w : World} {a0 a1 a2 a3 : Option Addr} {n0 n1 n2 n3 c0 c1 c2 c3 : Nat} {l0 l1 l2 l3 : List ByteArray} (h0 : Hid (SArg w a0 n0 l0)) (h1 : Hid (SArg w a1 n1 l1)) (h2 : Hid (SArg w a2 n2 l2)) (h3 : Hid (SArg w a3 n3 l3))
    (m0 : n0 ≤ 9223372036854775807) (m1 : n1 ≤ 9223372036854775807) (m2 : n2 ≤ 9223372036854775807) (m3 : n3 ≤ 9223372036854775807) :
    Calls Try.prog 8 #[.slice a0 n0 c0, .slice a1 n1 c1, .slice a2 n2 c2, .slice a3 n3 c3] w fun e w' => IsB e ∧ w' = w := by
  go_enter Try.func8, Try.ntmps8
  go_wp2
  · go_ret; exact ⟨⟨_, rfl⟩, rfl⟩
  go_loop [9, 10] (fun t i => ∃ k : Nat, k ≤ n0 ∧ i = .int .i64 k ∧ ∃ v : Int, t = .int .i64 v) (fun _ i => n0 - (intOf i).toNat)
  case atStart => exact ⟨0, Nat.zero_le _, rfl, _, rfl⟩
  case round =>
    obtain ⟨k0, hk0, rfl, v0, rfl⟩ := hrel
    by_cases hlt0 : k0 < n0
    · obtain ⟨b0, off0, rfl, _, hc⟩ := h0.out.2.2 (by omega)
      have gx := hc k0 hlt0
      clear hc
      generalize at_ l0 k0 = x at gx
      go_wp2
      · go_ret; exact ⟨⟨_, rfl⟩, rfl⟩
      · go_ret; exact ⟨⟨_, rfl⟩, rfl⟩
      go_round
      case rel => exact ⟨k0 + 1, by omega, by go_num, _, rfl⟩
      case measure => simp [intOf]; omega
    · go_wp2
      · go_ret; exact ⟨⟨_, rfl⟩, rfl⟩
      · go_ret; exact ⟨⟨_, rfl⟩, rfl⟩
      go_loop [9, 11] (fun t i => ∃ k : Nat, k ≤ n1 ∧ i = .int .i64 k ∧ ∃ v : Int, t = .int .i64 v) (fun _ i => n1 - (intOf i).toNat)
      case atStart => exact ⟨0, Nat.zero_le _, rfl, _, rfl⟩
      case round =>
        obtain ⟨k1, hk1, rfl, v1, rfl⟩ := hrel
        by_cases hlt1 : k1 < n1
        · obtain ⟨b1, off1, rfl, _, hc⟩ := h1.out.2.2 (by omega)
          have gx := hc k1 hlt1
          clear hc
          generalize at_ l1 k1 = x at gx
          go_wp2
          · go_ret; exact ⟨⟨_, rfl⟩, rfl⟩
          · go_ret; exact ⟨⟨_, rfl⟩, rfl⟩
          go_round
          case rel => exact ⟨k1 + 1, by omega, by go_num, _, rfl⟩
          case measure => simp [intOf]; omega
        · go_wp2
          · go_ret; exact ⟨⟨_, rfl⟩, rfl⟩
          · go_ret; exact ⟨⟨_, rfl⟩, rfl⟩
          go_loop [9, 12] (fun t i => ∃ k : Nat, k ≤ n2 ∧ i = .int .i64 k ∧ ∃ v : Int, t = .int .i64 v) (fun _ i => n2 - (intOf i).toNat)
          case atStart => exact ⟨0, Nat.zero_le _, rfl, _, rfl⟩
          case round =>
            obtain ⟨k2, hk2, rfl, v2, rfl⟩ := hrel
            by_cases hlt2 : k2 < n2
            · obtain ⟨b2, off2, rfl, _, hc⟩ := h2.out.2.2 (by omega)
              have gx := hc k2 hlt2
              clear hc
              generalize at_ l2 k2 = x at gx
              go_wp2
              · go_ret; exact ⟨⟨_, rfl⟩, rfl⟩
              · go_ret; exact ⟨⟨_, rfl⟩, rfl⟩
              go_round
              case rel => exact ⟨k2 + 1, by omega, by go_num, _, rfl⟩
              case measure => simp [intOf]; omega
            · go_wp2
              · go_ret; exact ⟨⟨_, rfl⟩, rfl⟩
              · go_ret; exact ⟨⟨_, rfl⟩, rfl⟩
              go_loop [9, 13] (fun t i => ∃ k : Nat, k ≤ n3 ∧ i = .int .i64 k ∧ ∃ v : Int, t = .int .i64 v) (fun _ i => n3 - (intOf i).toNat)
              case atStart => exact ⟨0, Nat.zero_le _, rfl, _, rfl⟩
              case round =>
                obtain ⟨k3, hk3, rfl, v3, rfl⟩ := hrel
                by_cases hlt3 : k3 < n3
                · obtain ⟨b3, off3, rfl, _, hc⟩ := h3.out.2.2 (by omega)
                  have gx := hc k3 hlt3
                  clear hc
                  generalize at_ l3 k3 = x at gx
                  go_wp2
                  · go_ret; exact ⟨⟨_, rfl⟩, rfl⟩
                  · go_ret; exact ⟨⟨_, rfl⟩, rfl⟩
                  go_round
                  case rel => exact ⟨k3 + 1, by omega, by go_num, _, rfl⟩
                  case measure => simp [intOf]; omega
                · go_wp2
                  go_ret; exact ⟨⟨_, rfl⟩, rfl⟩

end Go.Proofs.Qxb6000665a
