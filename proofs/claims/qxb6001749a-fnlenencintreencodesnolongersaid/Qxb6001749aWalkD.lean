/-
  CONTRACTS, FOURTH PART: lenEncInt (30), ZZLenEncInt (16): a number's code is read.
-/
import Derived.Test.Qxb6001749aWalkC
import Derived.Test.Qxb6001749aPlain
namespace Go.Proofs.Qxb6001749a
open Go.RowKit
set_option linter.unusedVariables false

theorem eq22 (w : World) (a : Option Addr) (n c n' c' : Nat) : (binOp .eql 22 (.slice a n c) (.slice none n' c')).run Try.prog w = .ok (.bool a.isNone) w := Lib.run_eql_slice_nil w _ _ a n c n' c' Try.underlying22

/-- How many bytes the code takes whose head stands first. -/
def need (l : List Int) : Nat := if l.getD 0 0 = 252 then 3 else if l.getD 0 0 = 253 then 4 else if l.getD 0 0 = 254 then 9 else 1

/-- The number that is read where the bytes are there. -/
def val (l : List Int) : Int := if need l = 1 then l.getD 0 0 else le ((l.drop 1).take (need l - 1))

theorem len_none {w : World} {R cap : Nat} {ao : Option Addr} {bad : Bool} (h : Reader w R ao 0 cap bad) :
    Calls Try.prog 30 #[.pointer (some ⟨R, 0, none⟩)] w fun e w' => e = .returned (.int .u64 0) ∧ Reader w' R none 0 0 true ∧ w.grownBy w' (some R) := by
  have q22 := eq22
  go_enter Try.func30, Try.ntmps30
  go_wp2_with (fail)
  refine (take_bad h 1 (by omega)).mono ?_
  rintro e w1 ⟨rfl, r1, g1⟩
  go_wp2_with (fail)
  go_ret
  exact ⟨rfl, r1, g1⟩

theorem len_one {w : World} {R b n cap off : Nat} {bad : Bool} {l : List Int} (x : Int) (h : Reader w R (some ⟨b, off, none⟩) n cap bad) (hv : View w b (some ⟨b, off, none⟩) cap l) (hl : l.length = n) (hb : b ≠ R) (hn : 1 ≤ n)
    (hc0 : w.cell? ⟨b, off, none⟩ = some (.int .u8 x)) (h0 : 0 ≤ x) (h1 : x ≤ 255) (k1 : (x == 252) = false) (k2 : (x == 253) = false) (k3 : (x == 254) = false) :
    Calls Try.prog 30 #[.pointer (some ⟨R, 0, none⟩)] w fun e w' => e = .returned (.int .u64 x) ∧ ∃ a2 : Option Addr, Reader w' R a2 (n - 1) (cap - 1) bad ∧
      View w' b a2 (cap - 1) (l.drop 1) ∧ w.grownBy w' (some R) := by
  have q22 := eq22
  go_enter Try.func30, Try.ntmps30
  go_wp2_with (fail)
  refine (take_ok h hv hl hb 1 (by omega)).mono ?_
  rintro e w1 ⟨a2, rfl, r1, v1, v2, g1⟩
  have hc1 := g1.cell hc0 (by simpa using hb)
  go_wp2_with (fail)
  go_ret
  exact ⟨rfl, a2, r1, v2, g1⟩

theorem len_cut_2 {w : World} {R b n cap off : Nat} {bad : Bool} {l : List Int} (h : Reader w R (some ⟨b, off, none⟩) n cap bad) (hv : View w b (some ⟨b, off, none⟩) cap l) (hl : l.length = n) (hb : b ≠ R) (hn : 1 ≤ n) (hn' : n < 3)
    (hc0 : w.cell? ⟨b, off, none⟩ = some (.int .u8 252)) :
    Calls Try.prog 30 #[.pointer (some ⟨R, 0, none⟩)] w fun e w' => e = .returned (.int .u64 0) ∧ Reader w' R none 0 0 true ∧ w.grownBy w' (some R) := by
  have q22 := eq22
  go_enter Try.func30, Try.ntmps30
  go_wp2_with (fail)
  refine (take_ok h hv hl hb 1 (by omega)).mono ?_
  rintro e w1 ⟨a2, rfl, r1, v1, v2, g1⟩
  have hc1 := g1.cell hc0 (by simpa using hb)
  go_wp2_with (fail)
  refine (take_bad r1 2 (by omega)).mono ?_
  rintro e w2 ⟨rfl, r2, g2⟩
  have g3 := gb_trans g1 g2
  clear r1 v1 v2 g1 g2 hc1 hc0 h hv q22
  go_wp2_with fail
  refine wp_loop_rounds 1 ?_
  rw [rounds_succ]
  go_wp2
  go_ret
  exact ⟨rfl, r2, g3⟩

theorem len_2 {w : World} {R b n cap off : Nat} {bad : Bool} {l f : List Int} (h : Reader w R (some ⟨b, off, none⟩) n cap bad) (hv : View w b (some ⟨b, off, none⟩) cap l) (hl : l.length = n) (hb : b ≠ R) (hn : 3 ≤ n)
    (hc0 : w.cell? ⟨b, off, none⟩ = some (.int .u8 252)) (hf : Hid (f = (l.drop 1).take 2)) (hfl : f.length = 2) (hby : ∀ x ∈ f, 0 ≤ x ∧ x ≤ 255) :
    Calls Try.prog 30 #[.pointer (some ⟨R, 0, none⟩)] w fun e w' => e = .returned (.int .u64 (le f)) ∧ ∃ a2 : Option Addr, Reader w' R a2 (n - 1 - 2) (cap - 1 - 2) bad ∧
      View w' b a2 (cap - 1 - 2) ((l.drop 1).drop 2) ∧ w.grownBy w' (some R) := by
  have q22 := eq22
  go_enter Try.func30, Try.ntmps30
  go_wp2_with (fail)
  refine (take_ok h hv hl hb 1 (by omega)).mono ?_
  rintro e w1 ⟨a2, rfl, r1, v1, v2, g1⟩
  have hc1 := g1.cell hc0 (by simpa using hb)
  go_wp2_with (fail)
  refine (take_ok r1 v2 (by simp [hl]) hb 2 (by omega)).mono ?_
  rintro e w2 ⟨a3, rfl, r2, v3, v4, g2⟩
  rw [← hf.out] at v3
  have ha2 : ∃ off2, a2 = some ⟨b, off2, none⟩ ∧ ∀ i, i < 2 → w2.cell? ⟨b, off2 + i, none⟩ = some (.int .u8 (f.getD i 0)) := by
    rcases v3 with ⟨_, _, rfl⟩ | ⟨off2, h0, _, _, h3⟩
    · simp at hfl
    · exact ⟨off2, h0, by rw [← hfl]; exact h3⟩
  obtain ⟨off2, rfl, cf⟩ := ha2
  have g3 := gb_trans g1 g2
  clear v3 v2 v1 r1 hc1 hc0 h hv q22 g1 g2
  go_wp2_with fail
  go_loop [5, 29] (fun n i => ∃ k : Nat, k ≤ 2 ∧ i = .int .i64 k ∧ n = .int .u64 (le (f.take k))) (fun _ i => 2 - (intOf i).toNat)
  case atStart => exact ⟨0, by omega, rfl, rfl⟩
  case round =>
    obtain ⟨k, hk, rfl, rfl⟩ := hrel
    by_cases hlt : k < 2
    · have gx := cf k hlt
      have bx : 0 ≤ f[k]'(by omega) ∧ f[k]'(by omega) ≤ 255 := hby _ (List.getElem_mem _)
      go_wp2
      have hbd := le_bound (f.take k) (fun x hx => hby x (List.mem_of_mem_take hx))
      have hkl : (f.take k).length = k := by simp; omega
      rw [hkl] at hbd
      have hor := or_step (le (f.take k)) (f[k]'(by omega)) k (by omega) hbd.1 hbd.2 bx.1 bx.2
      have hts := le_take_succ f k (by omega)
      go_round
      case rel => exact ⟨k + 1, by omega, by go_num, by rw [hor, hts]⟩
      case measure => simp [intOf]; omega
    · go_wp2
      go_ret
      exact ⟨ret_int (by rw [List.take_of_length_le (by omega)]), a3, r2, by rw [List.drop_drop] at v4; exact v4, g3⟩

theorem len_cut_3 {w : World} {R b n cap off : Nat} {bad : Bool} {l : List Int} (h : Reader w R (some ⟨b, off, none⟩) n cap bad) (hv : View w b (some ⟨b, off, none⟩) cap l) (hl : l.length = n) (hb : b ≠ R) (hn : 1 ≤ n) (hn' : n < 4)
    (hc0 : w.cell? ⟨b, off, none⟩ = some (.int .u8 253)) :
    Calls Try.prog 30 #[.pointer (some ⟨R, 0, none⟩)] w fun e w' => e = .returned (.int .u64 0) ∧ Reader w' R none 0 0 true ∧ w.grownBy w' (some R) := by
  have q22 := eq22
  go_enter Try.func30, Try.ntmps30
  go_wp2_with (fail)
  refine (take_ok h hv hl hb 1 (by omega)).mono ?_
  rintro e w1 ⟨a2, rfl, r1, v1, v2, g1⟩
  have hc1 := g1.cell hc0 (by simpa using hb)
  go_wp2_with (fail)
  refine (take_bad r1 3 (by omega)).mono ?_
  rintro e w2 ⟨rfl, r2, g2⟩
  have g3 := gb_trans g1 g2
  clear r1 v1 v2 g1 g2 hc1 hc0 h hv q22
  go_wp2_with fail
  refine wp_loop_rounds 1 ?_
  rw [rounds_succ]
  go_wp2
  go_ret
  exact ⟨rfl, r2, g3⟩

theorem len_3 {w : World} {R b n cap off : Nat} {bad : Bool} {l f : List Int} (h : Reader w R (some ⟨b, off, none⟩) n cap bad) (hv : View w b (some ⟨b, off, none⟩) cap l) (hl : l.length = n) (hb : b ≠ R) (hn : 4 ≤ n)
    (hc0 : w.cell? ⟨b, off, none⟩ = some (.int .u8 253)) (hf : Hid (f = (l.drop 1).take 3)) (hfl : f.length = 3) (hby : ∀ x ∈ f, 0 ≤ x ∧ x ≤ 255) :
    Calls Try.prog 30 #[.pointer (some ⟨R, 0, none⟩)] w fun e w' => e = .returned (.int .u64 (le f)) ∧ ∃ a2 : Option Addr, Reader w' R a2 (n - 1 - 3) (cap - 1 - 3) bad ∧
      View w' b a2 (cap - 1 - 3) ((l.drop 1).drop 3) ∧ w.grownBy w' (some R) := by
  have q22 := eq22
  go_enter Try.func30, Try.ntmps30
  go_wp2_with (fail)
  refine (take_ok h hv hl hb 1 (by omega)).mono ?_
  rintro e w1 ⟨a2, rfl, r1, v1, v2, g1⟩
  have hc1 := g1.cell hc0 (by simpa using hb)
  go_wp2_with (fail)
  refine (take_ok r1 v2 (by simp [hl]) hb 3 (by omega)).mono ?_
  rintro e w2 ⟨a3, rfl, r2, v3, v4, g2⟩
  rw [← hf.out] at v3
  have ha2 : ∃ off2, a2 = some ⟨b, off2, none⟩ ∧ ∀ i, i < 3 → w2.cell? ⟨b, off2 + i, none⟩ = some (.int .u8 (f.getD i 0)) := by
    rcases v3 with ⟨_, _, rfl⟩ | ⟨off2, h0, _, _, h3⟩
    · simp at hfl
    · exact ⟨off2, h0, by rw [← hfl]; exact h3⟩
  obtain ⟨off2, rfl, cf⟩ := ha2
  have g3 := gb_trans g1 g2
  clear v3 v2 v1 r1 hc1 hc0 h hv q22 g1 g2
  go_wp2_with fail
  go_loop [5, 29] (fun n i => ∃ k : Nat, k ≤ 3 ∧ i = .int .i64 k ∧ n = .int .u64 (le (f.take k))) (fun _ i => 3 - (intOf i).toNat)
  case atStart => exact ⟨0, by omega, rfl, rfl⟩
  case round =>
    obtain ⟨k, hk, rfl, rfl⟩ := hrel
    by_cases hlt : k < 3
    · have gx := cf k hlt
      have bx : 0 ≤ f[k]'(by omega) ∧ f[k]'(by omega) ≤ 255 := hby _ (List.getElem_mem _)
      go_wp2
      have hbd := le_bound (f.take k) (fun x hx => hby x (List.mem_of_mem_take hx))
      have hkl : (f.take k).length = k := by simp; omega
      rw [hkl] at hbd
      have hor := or_step (le (f.take k)) (f[k]'(by omega)) k (by omega) hbd.1 hbd.2 bx.1 bx.2
      have hts := le_take_succ f k (by omega)
      go_round
      case rel => exact ⟨k + 1, by omega, by go_num, by rw [hor, hts]⟩
      case measure => simp [intOf]; omega
    · go_wp2
      go_ret
      exact ⟨ret_int (by rw [List.take_of_length_le (by omega)]), a3, r2, by rw [List.drop_drop] at v4; exact v4, g3⟩

theorem len_cut_8 {w : World} {R b n cap off : Nat} {bad : Bool} {l : List Int} (h : Reader w R (some ⟨b, off, none⟩) n cap bad) (hv : View w b (some ⟨b, off, none⟩) cap l) (hl : l.length = n) (hb : b ≠ R) (hn : 1 ≤ n) (hn' : n < 9)
    (hc0 : w.cell? ⟨b, off, none⟩ = some (.int .u8 254)) :
    Calls Try.prog 30 #[.pointer (some ⟨R, 0, none⟩)] w fun e w' => e = .returned (.int .u64 0) ∧ Reader w' R none 0 0 true ∧ w.grownBy w' (some R) := by
  have q22 := eq22
  go_enter Try.func30, Try.ntmps30
  go_wp2_with (fail)
  refine (take_ok h hv hl hb 1 (by omega)).mono ?_
  rintro e w1 ⟨a2, rfl, r1, v1, v2, g1⟩
  have hc1 := g1.cell hc0 (by simpa using hb)
  go_wp2_with (fail)
  refine (take_bad r1 8 (by omega)).mono ?_
  rintro e w2 ⟨rfl, r2, g2⟩
  have g3 := gb_trans g1 g2
  clear r1 v1 v2 g1 g2 hc1 hc0 h hv q22
  go_wp2_with fail
  refine wp_loop_rounds 1 ?_
  rw [rounds_succ]
  go_wp2
  go_ret
  exact ⟨rfl, r2, g3⟩

theorem len_8 {w : World} {R b n cap off : Nat} {bad : Bool} {l f : List Int} (h : Reader w R (some ⟨b, off, none⟩) n cap bad) (hv : View w b (some ⟨b, off, none⟩) cap l) (hl : l.length = n) (hb : b ≠ R) (hn : 9 ≤ n)
    (hc0 : w.cell? ⟨b, off, none⟩ = some (.int .u8 254)) (hf : Hid (f = (l.drop 1).take 8)) (hfl : f.length = 8) (hby : ∀ x ∈ f, 0 ≤ x ∧ x ≤ 255) :
    Calls Try.prog 30 #[.pointer (some ⟨R, 0, none⟩)] w fun e w' => e = .returned (.int .u64 (le f)) ∧ ∃ a2 : Option Addr, Reader w' R a2 (n - 1 - 8) (cap - 1 - 8) bad ∧
      View w' b a2 (cap - 1 - 8) ((l.drop 1).drop 8) ∧ w.grownBy w' (some R) := by
  have q22 := eq22
  go_enter Try.func30, Try.ntmps30
  go_wp2_with (fail)
  refine (take_ok h hv hl hb 1 (by omega)).mono ?_
  rintro e w1 ⟨a2, rfl, r1, v1, v2, g1⟩
  have hc1 := g1.cell hc0 (by simpa using hb)
  go_wp2_with (fail)
  refine (take_ok r1 v2 (by simp [hl]) hb 8 (by omega)).mono ?_
  rintro e w2 ⟨a3, rfl, r2, v3, v4, g2⟩
  rw [← hf.out] at v3
  have ha2 : ∃ off2, a2 = some ⟨b, off2, none⟩ ∧ ∀ i, i < 8 → w2.cell? ⟨b, off2 + i, none⟩ = some (.int .u8 (f.getD i 0)) := by
    rcases v3 with ⟨_, _, rfl⟩ | ⟨off2, h0, _, _, h3⟩
    · simp at hfl
    · exact ⟨off2, h0, by rw [← hfl]; exact h3⟩
  obtain ⟨off2, rfl, cf⟩ := ha2
  have g3 := gb_trans g1 g2
  clear v3 v2 v1 r1 hc1 hc0 h hv q22 g1 g2
  go_wp2_with fail
  go_loop [5, 29] (fun n i => ∃ k : Nat, k ≤ 8 ∧ i = .int .i64 k ∧ n = .int .u64 (le (f.take k))) (fun _ i => 8 - (intOf i).toNat)
  case atStart => exact ⟨0, by omega, rfl, rfl⟩
  case round =>
    obtain ⟨k, hk, rfl, rfl⟩ := hrel
    by_cases hlt : k < 8
    · have gx := cf k hlt
      have bx : 0 ≤ f[k]'(by omega) ∧ f[k]'(by omega) ≤ 255 := hby _ (List.getElem_mem _)
      go_wp2
      have hbd := le_bound (f.take k) (fun x hx => hby x (List.mem_of_mem_take hx))
      have hkl : (f.take k).length = k := by simp; omega
      rw [hkl] at hbd
      have hor := or_step (le (f.take k)) (f[k]'(by omega)) k (by omega) hbd.1 hbd.2 bx.1 bx.2
      have hts := le_take_succ f k (by omega)
      go_round
      case rel => exact ⟨k + 1, by omega, by go_num, by rw [hor, hts]⟩
      case measure => simp [intOf]; omega
    · go_wp2
      go_ret
      exact ⟨ret_int (by rw [List.take_of_length_le (by omega)]), a3, r2, by rw [List.drop_drop] at v4; exact v4, g3⟩

theorem View.first {w : World} {b cap : Nat} {ao : Option Addr} {l : List Int} (h : View w b ao cap l) (hn : 1 ≤ l.length) : ∃ off, ao = some ⟨b, off, none⟩ ∧ w.cell? ⟨b, off, none⟩ = some (.int .u8 (l.getD 0 0)) := by
  rcases h with ⟨_, _, rfl⟩ | ⟨off, h0, _, _, h3⟩
  · simp at hn
  · exact ⟨off, h0, h3 0 (by omega)⟩

theorem need_cases (l : List Int) : (l.getD 0 0 = 252 ∧ need l = 3) ∨ (l.getD 0 0 = 253 ∧ need l = 4) ∨ (l.getD 0 0 = 254 ∧ need l = 9) ∨ (l.getD 0 0 ≠ 252 ∧ l.getD 0 0 ≠ 253 ∧ l.getD 0 0 ≠ 254 ∧ need l = 1) := by
  unfold need
  split
  · exact .inl ⟨by assumption, rfl⟩
  · split
    · exact .inr (.inl ⟨by assumption, rfl⟩)
    · split
      · exact .inr (.inr (.inl ⟨by assumption, rfl⟩))
      · exact .inr (.inr (.inr ⟨by assumption, by assumption, by assumption, rfl⟩))

theorem need_pos (l : List Int) : 1 ≤ need l ∧ need l ≤ 9 := by rcases need_cases l with h | h | h | h <;> omega

/-- Too few bytes: 0, and the reader is spent and bad. -/
theorem lenEnc_short {w : World} {R b n cap : Nat} {ao : Option Addr} {bad : Bool} {l : List Int} (h : Reader w R ao n cap bad) (hv : View w b ao cap l) (hl : l.length = n) (hb : b ≠ R) (hs : n < need l) :
    Calls Try.prog 30 #[.pointer (some ⟨R, 0, none⟩)] w fun e w' => e = .returned (.int .u64 0) ∧ Reader w' R none 0 0 true ∧ w.grownBy w' (some R) := by
  by_cases h0 : n = 0
  · subst h0
    exact len_none h
  · obtain ⟨off, rfl, hc⟩ := hv.first (by omega)
    rcases need_cases l with ⟨e, hn⟩ | ⟨e, hn⟩ | ⟨e, hn⟩ | ⟨_, _, _, hn⟩
    · rw [e] at hc; exact len_cut_2 h hv hl hb (by omega) (by omega) hc
    · rw [e] at hc; exact len_cut_3 h hv hl hb (by omega) (by omega) hc
    · rw [e] at hc; exact len_cut_8 h hv hl hb (by omega) (by omega) hc
    · omega

/-- Enough bytes: the number; the reader goes on behind them. -/
theorem lenEnc_ok {w : World} {R b n cap : Nat} {ao : Option Addr} {bad : Bool} {l : List Int} (h : Reader w R ao n cap bad) (hv : View w b ao cap l) (hl : l.length = n) (hb : b ≠ R) (hs : need l ≤ n) (hby : ∀ x ∈ l, 0 ≤ x ∧ x ≤ 255) :
    Calls Try.prog 30 #[.pointer (some ⟨R, 0, none⟩)] w fun e w' => e = .returned (.int .u64 (val l)) ∧ ∃ a2 : Option Addr, Reader w' R a2 (n - need l) (cap - need l) bad ∧
      View w' b a2 (cap - need l) (l.drop (need l)) ∧ w.grownBy w' (some R) := by
  have hp := need_pos l
  have hfb : ∀ s, ∀ x ∈ (l.drop 1).take s, 0 ≤ x ∧ x ≤ 255 := fun s x hx => hby x (List.mem_of_mem_drop (List.mem_of_mem_take hx))
  obtain ⟨off, rfl, hc⟩ := hv.first (by omega)
  have fin : ∀ (s m : Nat) (e : Ending) (w' : World), need l = m → m = 1 + s → 1 ≤ s → (e = .returned (.int .u64 (le ((l.drop 1).take s))) ∧ ∃ a2 : Option Addr, Reader w' R a2 (n - 1 - s) (cap - 1 - s) bad ∧
      View w' b a2 (cap - 1 - s) ((l.drop 1).drop s) ∧ w.grownBy w' (some R)) → e = .returned (.int .u64 (val l)) ∧ ∃ a2 : Option Addr, Reader w' R a2 (n - need l) (cap - need l) bad ∧
      View w' b a2 (cap - need l) (l.drop (need l)) ∧ w.grownBy w' (some R) := by
    rintro s m e w' hm hs1 hs2 ⟨rfl, a2, r, v, g⟩
    subst hs1
    refine ⟨ret_int ?_, a2, ?_, ?_, g⟩
    · unfold val
      rw [hm, if_neg (by omega), Nat.add_sub_cancel_left]
    · rw [hm, ← Nat.sub_sub, ← Nat.sub_sub]; exact r
    · rw [hm, ← Nat.sub_sub, ← List.drop_drop]; exact v
  rcases need_cases l with ⟨e, hn⟩ | ⟨e, hn⟩ | ⟨e, hn⟩ | ⟨k1, k2, k3, hn⟩
  · rw [e] at hc; exact (len_2 h hv hl hb (by omega) hc rfl (by simp; omega) (hfb 2)).mono fun e w' hq => fin 2 3 e w' hn rfl (by omega) hq
  · rw [e] at hc; exact (len_3 h hv hl hb (by omega) hc rfl (by simp; omega) (hfb 3)).mono fun e w' hq => fin 3 4 e w' hn rfl (by omega) hq
  · rw [e] at hc; exact (len_8 h hv hl hb (by omega) hc rfl (by simp; omega) (hfb 8)).mono fun e w' hq => fin 8 9 e w' hn rfl (by omega) hq
  · have hx := hby (l.getD 0 0) (by
      have : l.getD 0 0 = l[0]'(by omega) := by simp [List.getD, show 0 < l.length by omega]
      rw [this]; exact List.getElem_mem _)
    refine (len_one (l.getD 0 0) h hv hl hb (by omega) hc hx.1 hx.2 (by simpa using k1) (by simpa using k2) (by simpa using k3)).mono ?_
    rintro e w' ⟨rfl, a2, r, v, g⟩
    rw [hn]
    exact ⟨ret_int (by unfold val; rw [if_pos hn]), a2, r, v, g⟩

theorem zzlenEnc_short {w : World} {R b n cap : Nat} {ao : Option Addr} {bad : Bool} {l : List Int} (h : Reader w R ao n cap bad) (hv : View w b ao cap l) (hl : l.length = n) (hb : b ≠ R) (hs : n < need l) :
    Calls Try.prog 16 #[.pointer (some ⟨R, 0, none⟩)] w fun e w' => e = .returned (.int .u64 0) ∧ Reader w' R none 0 0 true ∧ w.grownBy w' (some R) := by
  go_enter Try.func16, Try.ntmps16
  go_wp2_with (go_at_call 30; refine (lenEnc_short h hv hl hb hs).mono ?_; rintro e w' ⟨rfl, h1, h2⟩)
  go_ret
  exact ⟨rfl, h1, h2⟩

theorem zzlenEnc_ok {w : World} {R b n cap : Nat} {ao : Option Addr} {bad : Bool} {l : List Int} (h : Reader w R ao n cap bad) (hv : View w b ao cap l) (hl : l.length = n) (hb : b ≠ R) (hs : need l ≤ n) (hby : ∀ x ∈ l, 0 ≤ x ∧ x ≤ 255) :
    Calls Try.prog 16 #[.pointer (some ⟨R, 0, none⟩)] w fun e w' => e = .returned (.int .u64 (val l)) ∧ ∃ a2 : Option Addr, Reader w' R a2 (n - need l) (cap - need l) bad ∧
      View w' b a2 (cap - need l) (l.drop (need l)) ∧ w.grownBy w' (some R) := by
  go_enter Try.func16, Try.ntmps16
  go_wp2_with (go_at_call 30; refine (lenEnc_ok h hv hl hb hs hby).mono ?_; rintro e w' ⟨rfl, a2, h1, h2, h3⟩)
  go_ret
  exact ⟨rfl, a2, h1, h2, h3⟩

end Go.Proofs.Qxb6001749a
