/-
  CONTRACTS, EIGHTH PART: slices.Index at bytes (33), asked for 0; nulString (32), ZZNulString (26).
-/
import Derived.Test.Qxb6001749aWalkG
import Derived.Laws.BytesArg
namespace Go.Proofs.Qxb6001749a
open Go.RowKit
set_option linter.unusedVariables false

theorem hid {p : Prop} (h : p) : Hid p := h

theorem index_empty (ao : Option Addr) (c : Nat) (w : World) :
    Calls Try.prog 33 #[.slice ao 0 c, .int .u8 0] w fun e w' => e = .returned (.int .i64 (-1)) ∧ w' = w := by
  go_enter Try.func33, Try.ntmps33
  go_wp2
  refine wp_loop_rounds 1 ?_
  rw [rounds_succ]
  go_wp2
  go_ret
  exact ⟨rfl, rfl⟩

theorem index_not (b off n c : Nat) (l : List Int) (w : World) (hn : n ≤ 9223372036854775807) (hl : l.length = n)
    (hc : ∀ i, i < n → w.cell? ⟨b, off + i, none⟩ = some (.int .u8 (l.getD i 0))) (h0 : ∀ i, i < n → (0 == l.getD i 0) = false) :
    Calls Try.prog 33 #[.slice (some ⟨b, off, none⟩) n c, .int .u8 0] w fun e w' => e = .returned (.int .i64 (-1)) ∧ w' = w := by
  have HC := hid hc
  have H0 := hid h0
  clear hc h0
  go_enter Try.func33, Try.ntmps33
  go_wp2
  go_loop [8] (fun i => ∃ k : Nat, k ≤ n ∧ i = .int .i64 k) (fun i => n - (intOf i).toNat)
  case atStart => exact ⟨0, Nat.zero_le _, rfl⟩
  case round =>
    obtain ⟨k, hk, rfl⟩ := hrel
    by_cases hlt : k < n
    · have gx := HC.out k hlt
      have g0 := H0.out k hlt
      generalize l.getD k 0 = x at gx g0
      go_wp2
      go_round
      case rel => exact ⟨k + 1, by omega, by go_num⟩
      case measure => simp [intOf]; omega
    · go_wp2
      go_ret
      exact ⟨rfl, rfl⟩

theorem index_at (b off n c p : Nat) (l : List Int) (w : World) (hn : n ≤ 9223372036854775807) (hl : l.length = n) (hp : p < n)
    (hc : ∀ i, i < n → w.cell? ⟨b, off + i, none⟩ = some (.int .u8 (l.getD i 0))) (h0 : ∀ i, i < p → (0 == l.getD i 0) = false) (h1 : l.getD p 0 = 0) :
    Calls Try.prog 33 #[.slice (some ⟨b, off, none⟩) n c, .int .u8 0] w fun e w' => e = .returned (.int .i64 p) ∧ w' = w := by
  have H1 : Hid (l.getD p 0 = 0) := h1
  have HC := hid hc
  have H0 := hid h0
  clear h1 hc h0
  go_enter Try.func33, Try.ntmps33
  go_wp2
  go_loop [8] (fun i => ∃ k : Nat, k ≤ p ∧ i = .int .i64 k) (fun i => n - (intOf i).toNat)
  case atStart => exact ⟨0, Nat.zero_le _, rfl⟩
  case round =>
    obtain ⟨k, hk, rfl⟩ := hrel
    by_cases hlt : k < p
    · have gx := HC.out k (by omega)
      have g0 := H0.out k hlt
      generalize l.getD k 0 = x at gx g0
      go_wp2
      go_round
      case rel => exact ⟨k + 1, by omega, by go_num⟩
      case measure => simp [intOf]; omega
    · have hkp : k = p := by omega
      subst hkp
      have gx := HC.out k (by omega)
      rw [H1.out] at gx
      go_wp2
      go_ret
      exact ⟨rfl, rfl⟩

/-- No 0 among the bytes: the rest is handed back whole. -/
theorem nul_none {w : World} {R b n cap : Nat} {ao : Option Addr} {bad : Bool} {l : List Int} (h : Reader w R ao n cap bad) (hv : View w b ao cap l) (hl : l.length = n) (h0 : ∀ i, i < n → (0 == l.getD i 0) = false) :
    Calls Try.prog 32 #[.pointer (some ⟨R, 0, none⟩)] w fun e w' => e = .returned (.string (strOfNums l)) ∧ Reader w' R none 0 0 bad ∧ w.grownBy w' (some R) := by
  have hs := hv.small
  have D : Hid (Reader (w.setCell ⟨R, 0, none⟩ (.slice none 0 0)) R none 0 0 bad ∧ w.grownBy (w.setCell ⟨R, 0, none⟩ (.slice none 0 0)) (some R)) := ⟨h.set0, gb_setCell _ _ _ _⟩
  have hidx : Hid (Calls Try.prog 33 #[.slice ao n cap, .int .u8 0] w fun e w' => e = .returned (.int .i64 (-1)) ∧ w' = w) := by
    rcases hv with ⟨rfl, rfl, rfl⟩ | ⟨off, rfl, h1, h2, h3⟩
    · obtain rfl : n = 0 := by simpa using hl.symm
      exact index_empty none 0 w
    · exact index_not b off n cap l w (by omega) hl (by rw [← hl]; exact h3) h0
  have hcv : (convert 22 9 (.slice ao n cap)).run Try.prog w = .ok (.string (strOfNums l)) w := by
    rcases hv with ⟨rfl, rfl, rfl⟩ | ⟨off, rfl, h1, h2, h3⟩
    · exact run_convert_bytes_nil w 22 5 Try.underlying22 Try.underlying5 _ _ 9 Try.underlying9
    · exact run_convert_bytes_arg w 22 5 Try.underlying22 Try.underlying5 b off n cap l hl (by rw [← hl]; exact h3) 9 Try.underlying9
  obtain ⟨c0, c1, f0, f1⟩ := h
  clear hv h0 hl hs
  go_enter Try.func32, Try.ntmps32
  go_wp2_with (go_at_call 33; refine Calls.mono hidx.out ?_; rintro e w' ⟨rfl, rfl⟩)
  go_ret
  exact ⟨rfl, D.out⟩

theorem nul_last {w : World} {R b off p : Nat} {bad : Bool} (str : ByteArray) (h : Reader w R (some ⟨b, off, none⟩) (p + 1) (p + 1) bad)
    (hidx : Hid (Calls Try.prog 33 #[.slice (some ⟨b, off, none⟩) (p + 1) (p + 1), .int .u8 0] w fun e w' => e = .returned (.int .i64 p) ∧ w' = w))
    (hcv : (convert 22 9 (.slice (some ⟨b, off, none⟩) p (p + 1))).run Try.prog w = .ok (.string str) w) (hp : p ≤ 9223372036854775806) :
    Calls Try.prog 32 #[.pointer (some ⟨R, 0, none⟩)] w fun e w' => e = .returned (.string str) ∧ w' = w.setCell ⟨R, 0, none⟩ (.slice (some ⟨b, off, none⟩) 0 0) := by
  obtain ⟨c0, c1, f0, f1⟩ := h
  go_enter Try.func32, Try.ntmps32
  go_wp2_with (go_at_call 33; refine Calls.mono hidx.out ?_; rintro e w' ⟨rfl, rfl⟩)
  go_ret
  exact ⟨rfl, rfl⟩

/-- The first 0 stands at p: what lies ahead of it; the reader goes on behind it. -/
theorem nul_some {w : World} {R b n cap : Nat} {ao : Option Addr} {bad : Bool} {l : List Int} (h : Reader w R ao n cap bad) (hv : View w b ao cap l) (hl : l.length = n) (hb : b ≠ R) (p : Nat) (hp : p < n) (h0 : ∀ i, i < p → (0 == l.getD i 0) = false) (h1 : l.getD p 0 = 0) :
    Calls Try.prog 32 #[.pointer (some ⟨R, 0, none⟩)] w fun e w' => e = .returned (.string (strOfNums (l.take p))) ∧ ∃ a2 : Option Addr, Reader w' R a2 (n - (p + 1)) (cap - (p + 1)) bad ∧ View w' b a2 (cap - (p + 1)) (l.drop (p + 1)) ∧ w.grownBy w' (some R) := by
  have hs := hv.small
  have hle := hv.le
  have hbR : some b ≠ some R := by simpa using hb
  obtain ⟨off, rfl, hcell⟩ : ∃ off, ao = some ⟨b, off, none⟩ ∧ ∀ i, i < n → w.cell? ⟨b, off + i, none⟩ = some (.int .u8 (l.getD i 0)) := by
    rcases hv with ⟨_, _, rfl⟩ | ⟨off, h0, _, _, h3⟩
    · simp at hl; omega
    · exact ⟨off, h0, by rw [← hl]; exact h3⟩
  have hidx : Hid (Calls Try.prog 33 #[.slice (some ⟨b, off, none⟩) n cap, .int .u8 0] w fun e w' => e = .returned (.int .i64 p) ∧ w' = w) :=
    index_at b off n cap p l w (by omega) hl hp hcell h0 h1
  have hcv : (convert 22 9 (.slice (some ⟨b, off, none⟩) p cap)).run Try.prog w = .ok (.string (strOfNums (l.take p))) w :=
    run_convert_bytes_arg w 22 5 Try.underlying22 Try.underlying5 b off p cap (l.take p) (by simp; omega) (fun i hi => by rw [hcell i (by omega)]; simp [List.getD, hi]) 9 Try.underlying9
  have D : Hid (∀ a2 : Option Addr, a2 = (if cap = p + 1 then some ⟨b, off, none⟩ else some ⟨b, off + (p + 1), none⟩) →
      Reader (w.setCell ⟨R, 0, none⟩ (.slice a2 (n - (p + 1)) (cap - (p + 1)))) R a2 (n - (p + 1)) (cap - (p + 1)) bad ∧ View (w.setCell ⟨R, 0, none⟩ (.slice a2 (n - (p + 1)) (cap - (p + 1)))) b a2 (cap - (p + 1)) (l.drop (p + 1)) ∧
      w.grownBy (w.setCell ⟨R, 0, none⟩ (.slice a2 (n - (p + 1)) (cap - (p + 1)))) (some R)) := by
    rintro a2 rfl
    have hg := gb_setCell w R 0 (.slice (if cap = p + 1 then some ⟨b, off, none⟩ else some ⟨b, off + (p + 1), none⟩) (n - (p + 1)) (cap - (p + 1)))
    exact ⟨h.set0, (hv.back (p + 1) (by omega)).kept hg hbR, hg⟩
  have hpn : (p : Int) < n := by omega
  have hnc : (n : Int) ≤ cap := by omega
  have hcm : (cap : Int) ≤ 9223372036854775807 := by have := hle.2; unfold maxLen at this; omega
  clear hv h0 hle hs hcell h1 hl
  by_cases hck : cap = p + 1
  · obtain rfl : n = p + 1 := by omega
    subst hck
    refine (nul_last _ h hidx hcv (by omega)).mono ?_
    rintro e w' ⟨rfl, rfl⟩
    have := D.out (some ⟨b, off, none⟩) (by rw [if_pos rfl])
    rw [Nat.sub_self] at this ⊢
    exact ⟨rfl, some ⟨b, off, none⟩, this⟩
  · obtain ⟨c0, c1, f0, f1⟩ := h
    go_enter Try.func32, Try.ntmps32
    go_wp2_with (go_at_call 33; refine Calls.mono hidx.out ?_; rintro e w' ⟨rfl, rfl⟩)
    go_ret
    refine ⟨rfl, some ⟨b, off + (p + 1), none⟩, ?_⟩
    exact D.out _ (by rw [if_neg hck])

end Go.Proofs.Qxb6001749a
