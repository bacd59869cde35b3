/-
  CONTRACTS, FIRST PART: zzb1Equal, ZZNewPayloadReader, ZZBad, ZZRest, take, ZZTake, zzb1Clone.
-/
import Derived.Test.Qxb6001749aKit
namespace Go.Proofs.Qxb6001749a
open Go.RowKit
set_option linter.unusedVariables false

/-! ### zzb1Equal (14) -/
theorem equal_ne (ao bo : Option Addr) (n m c d : Nat) (w : World) (h : n ≠ m) :
    Calls Try.prog 14 #[.slice ao n c, .slice bo m d] w fun e w' => e = .returned (.bool false) ∧ w' = w := by
  have h' : ((n : Int) == (m : Int)) = false := by simp; omega
  go_enter Try.func14, Try.ntmps14
  go_wp2
  go_ret
  exact ⟨rfl, rfl⟩

theorem equal_nil (ao bo : Option Addr) (c d : Nat) (w : World) :
    Calls Try.prog 14 #[.slice ao 0 c, .slice bo 0 d] w fun e w' => e = .returned (.bool true) ∧ w' = w := by
  go_enter Try.func14, Try.ntmps14
  go_wp2
  refine wp_loop_rounds 1 ?_
  rw [rounds_succ]
  go_wp2
  go_ret
  exact ⟨rfl, rfl⟩

theorem take_step {x y : List Int} {n k : Nat} (hx : x.length = n) (hy : y.length = n) (hk : k < n) (ht : x.take k = y.take k) (h : x[k]?.getD 0 = y[k]?.getD 0) : x.take (k + 1) = y.take (k + 1) := by
  have h1 : x[k]? = some (x[k]'(by omega)) := List.getElem?_eq_getElem _
  have h2 : y[k]? = some (y[k]'(by omega)) := List.getElem?_eq_getElem _
  rw [h1, h2] at h
  simp only [Option.getD_some] at h
  rw [List.take_succ_eq_append_getElem (by omega), List.take_succ_eq_append_getElem (by omega), ht, h]

theorem equal_eq (b off b' off' n c d : Nat) (x y : List Int) (w : World) (hn : n ≤ 9223372036854775807) (hx : x.length = n) (hy : y.length = n)
    (cx : ∀ i, i < n → w.cell? ⟨b, off + i, none⟩ = some (.int .u8 (x.getD i 0)))
    (cy : ∀ i, i < n → w.cell? ⟨b', off' + i, none⟩ = some (.int .u8 (y.getD i 0))) :
    Calls Try.prog 14 #[.slice (some ⟨b, off, none⟩) n c, .slice (some ⟨b', off', none⟩) n d] w fun e w' => e = .returned (.bool (decide (x = y))) ∧ ∃ q, w' = w.drewN q := by
  go_enter Try.func14, Try.ntmps14
  go_wp2
  go_loopw [5] (fun i wr => ∃ k : Nat, k ≤ n ∧ i = .int .i64 k ∧ x.take k = y.take k ∧ ∃ q, wr = w.drewN q) (fun i _ => n - (intOf i).toNat)
  case atStart => exact ⟨0, Nat.zero_le _, rfl, by simp, 0, rfl⟩
  case round =>
    obtain ⟨k, hk, rfl, htk, q, rfl⟩ := hrel
    by_cases hlt : k < n
    · have gx := cx k hlt
      have gy := cy k hlt
      go_wp2
      go_region
      all_goals go_wp2
      · go_ret
        have hne : (x[k]'(by omega) != y[k]'(by omega)) = true := by assumption
        refine ⟨ret_bool (Eq.symm (decide_eq_false ?_)), _, rfl⟩
        intro he
        subst he
        simp at hne
      · have heq : (x[k]'(by omega) != y[k]'(by omega)) = false := by assumption
        go_roundw
        case rel => exact ⟨k + 1, by omega, by go_num, take_step hx hy hlt htk (by simp at heq; simp [hx, hy, hlt, heq]), _, rfl⟩
        case measure => simp [intOf]; omega
    · go_wp2
      go_ret
      have hkn : k = n := by omega
      refine ⟨ret_bool (Eq.symm (decide_eq_true ?_)), _, rfl⟩
      rw [List.take_of_length_le (by omega), List.take_of_length_le (by omega)] at htk
      exact htk

/-- Whatever the two slices: are the bytes the same? -/
theorem equal_any {w : World} {b b' n m c d : Nat} {ao bo : Option Addr} {x y : List Int} (hx : View w b ao c x) (hy : View w b' bo d y) (hn : x.length = n) (hm : y.length = m) :
    Calls Try.prog 14 #[.slice ao n c, .slice bo m d] w fun e w' => e = .returned (.bool (decide (x = y))) ∧ ∃ q, w' = w.drewN q := by
  subst hn
  subst hm
  by_cases hl : x.length = y.length
  · by_cases h0 : x.length = 0
    · rw [← hl, h0]
      refine (equal_nil ao bo c d w).mono ?_
      rintro e w' ⟨rfl, rfl⟩
      have e1 := List.eq_nil_of_length_eq_zero h0
      have e2 := List.eq_nil_of_length_eq_zero (hl.symm.trans h0)
      exact ⟨ret_bool (by simp [e1, e2]), 0, rfl⟩
    · have hs := hx.small
      rcases hx with ⟨_, _, rfl⟩ | ⟨off, rfl, _, _, cx⟩
      · simp at h0
      rcases hy with ⟨_, _, rfl⟩ | ⟨off', rfl, _, _, cy⟩
      · simp at hl; simp [hl] at h0
      rw [← hl]
      exact equal_eq b off b' off' x.length c d x y w hs rfl hl.symm cx (by rw [hl]; exact cy)
  · refine (equal_ne ao bo _ _ c d w hl).mono ?_
    rintro e w' ⟨rfl, rfl⟩
    exact ⟨ret_bool (Eq.symm (decide_eq_false (fun e => hl (by rw [e])))), 0, rfl⟩

/-! ### ZZNewPayloadReader (15), ZZBad (17), ZZRest (18) -/
theorem newReader_any (ao : Option Addr) (n c : Nat) (w : World) :
    Calls Try.prog 15 #[.slice ao n c] w fun e w' => e = .returned (.pointer (some ⟨w.heap.size, 0, none⟩)) ∧ w' = w.alloc (.cells #[.slice ao n c, .bool false] 41) := by
  go_enter Try.func15, Try.ntmps15
  go_wp2
  go_ret
  exact ⟨rfl, rfl⟩

theorem bad_any {w : World} {R n cap : Nat} {ao : Option Addr} {bad : Bool} (h : Reader w R ao n cap bad) :
    Calls Try.prog 17 #[.pointer (some ⟨R, 0, none⟩)] w fun e w' => e = .returned (.bool bad) ∧ w' = w := by
  have c1 := h.c1
  clear h
  go_enter Try.func17, Try.ntmps17
  go_wp2
  go_ret
  exact ⟨rfl, rfl⟩

theorem rest_any {w : World} {R n cap : Nat} {ao : Option Addr} {bad : Bool} (h : Reader w R ao n cap bad) :
    Calls Try.prog 18 #[.pointer (some ⟨R, 0, none⟩)] w fun e w' => e = .returned (.slice ao n cap) ∧ w' = w := by
  have c0 := h.c0
  clear h
  go_enter Try.func18, Try.ntmps18
  go_wp2
  go_ret
  exact ⟨rfl, rfl⟩

/-! ### take (31) -/
theorem take_bad {w : World} {R n cap : Nat} {ao : Option Addr} {bad : Bool} (h : Reader w R ao n cap bad) (k : Int) (hk : k < 0 ∨ (n : Int) < k) :
    Calls Try.prog 31 #[.pointer (some ⟨R, 0, none⟩), .int .i64 k] w fun e w' => e = .returned (.slice none 0 0) ∧ Reader w' R none 0 0 true ∧ w.grownBy w' (some R) := by
  have done : Reader ((w.setCell ⟨R, 1, none⟩ (.bool true)).setCell ⟨R, 0, none⟩ (.slice none 0 0)) R none 0 0 true ∧ w.grownBy ((w.setCell ⟨R, 1, none⟩ (.bool true)).setCell ⟨R, 0, none⟩ (.slice none 0 0)) (some R) :=
    ⟨(h.set1 true).set0, gb_trans (gb_setCell _ _ _ _) (gb_setCell _ _ _ _)⟩
  have D := (show Hid _ from done)
  clear done
  obtain ⟨c0, c1, f0, f1⟩ := h
  by_cases hk0 : k < 0
  · clear hk
    go_enter Try.func31, Try.ntmps31
    go_wp2
    go_ret
    exact ⟨rfl, D.out⟩
  · have hk1 : (n : Int) < k := by omega
    clear hk
    go_enter Try.func31, Try.ntmps31
    go_wp2
    go_ret
    exact ⟨rfl, D.out⟩

theorem take_nil {w : World} {R : Nat} {bad : Bool} (h : Reader w R none 0 0 bad) :
    Calls Try.prog 31 #[.pointer (some ⟨R, 0, none⟩), .int .i64 0] w fun e w' => e = .returned (.slice none 0 0) ∧ w' = w.setCell ⟨R, 0, none⟩ (.slice none 0 0) := by
  obtain ⟨c0, c1, f0, f1⟩ := h
  go_enter Try.func31, Try.ntmps31
  go_wp2
  go_ret
  exact ⟨rfl, rfl⟩

theorem take_some (R : Nat) (b off n c : Nat) (bad : Bool) (k : Nat) (w : World) (h : Reader w R (some ⟨b, off, none⟩) n c bad) (hk : k ≤ n) (hn : n ≤ c) (hc : c ≤ maxLen) :
    Calls Try.prog 31 #[.pointer (some ⟨R, 0, none⟩), .int .i64 k] w fun e w' => e = .returned (.slice (some ⟨b, off, none⟩) k c) ∧
      w' = w.setCell ⟨R, 0, none⟩ (.slice (if c = k then some ⟨b, off, none⟩ else some ⟨b, off + k, none⟩) (n - k) (c - k)) := by
  obtain ⟨c0, c1, f0, f1⟩ := h
  have hk0 : ¬ (k : Int) < 0 := by omega
  unfold maxLen at hc
  by_cases hck : c = k
  · have hkc : (k : Int) ≤ c := by omega
    go_enter Try.func31, Try.ntmps31
    go_wp2
    go_ret
    exact ⟨rfl, rfl⟩
  · have hkc : (k : Int) ≤ c := by omega
    go_enter Try.func31, Try.ntmps31
    go_wp2
    go_ret
    exact ⟨rfl, rfl⟩

/-- A take that is granted: the field, the rest, and whether the field is nil. -/
theorem take_ok {w : World} {R b n cap : Nat} {ao : Option Addr} {bad : Bool} {l : List Int} (h : Reader w R ao n cap bad) (hv : View w b ao cap l) (hl : l.length = n) (hb : b ≠ R) (k : Nat) (hk : k ≤ n) :
    Calls Try.prog 31 #[.pointer (some ⟨R, 0, none⟩), .int .i64 k] w fun e w' => ∃ a2 : Option Addr, e = .returned (.slice ao k cap) ∧ Reader w' R a2 (n - k) (cap - k) bad ∧
      View w' b ao cap (l.take k) ∧ View w' b a2 (cap - k) (l.drop k) ∧ w.grownBy w' (some R) := by
  have hbR : some b ≠ some R := by simpa using hb
  have hv0 := hv
  subst hl
  rcases hv with ⟨rfl, rfl, rfl⟩ | ⟨off, rfl, h1, h2, _⟩
  · obtain rfl : k = 0 := by simpa using hk
    refine (take_nil h).mono ?_
    rintro e w' ⟨rfl, rfl⟩
    exact ⟨none, rfl, h.set0, View.nil _ _, View.nil _ _, gb_setCell _ _ _ _⟩
  · refine (take_some R b off l.length cap bad k w h hk h1 h2).mono ?_
    rintro e w' ⟨rfl, rfl⟩
    have hg := gb_setCell w R 0 (.slice (if cap = k then some ⟨b, off, none⟩ else some ⟨b, off + k, none⟩) (l.length - k) (cap - k))
    exact ⟨_, rfl, h.set0, (hv0.front k).kept hg hbR, (hv0.back k hk).kept hg hbR, hg⟩

/-! ### ZZTake (24) -/
theorem zztake_bad {w : World} {R n cap : Nat} {ao : Option Addr} {bad : Bool} (h : Reader w R ao n cap bad) (k : Int) (hk : k < 0 ∨ (n : Int) < k) :
    Calls Try.prog 24 #[.pointer (some ⟨R, 0, none⟩), .int .i64 k] w fun e w' => e = .returned (.slice none 0 0) ∧ Reader w' R none 0 0 true ∧ w.grownBy w' (some R) := by
  go_enter Try.func24, Try.ntmps24
  go_wp2_with (go_at_call 31; refine (take_bad h k hk).mono ?_; rintro e w' ⟨rfl, h1, h2⟩)
  go_ret
  exact ⟨rfl, h1, h2⟩

theorem zztake_ok {w : World} {R b n cap : Nat} {ao : Option Addr} {bad : Bool} {l : List Int} (h : Reader w R ao n cap bad) (hv : View w b ao cap l) (hl : l.length = n) (hb : b ≠ R) (k : Nat) (hk : k ≤ n) :
    Calls Try.prog 24 #[.pointer (some ⟨R, 0, none⟩), .int .i64 k] w fun e w' => ∃ a2 : Option Addr, e = .returned (.slice ao k cap) ∧ Reader w' R a2 (n - k) (cap - k) bad ∧
      View w' b ao cap (l.take k) ∧ View w' b a2 (cap - k) (l.drop k) ∧ w.grownBy w' (some R) := by
  go_enter Try.func24, Try.ntmps24
  go_wp2_with (go_at_call 31; refine (take_ok h hv hl hb k hk).mono ?_; rintro e w' ⟨a2, rfl, h1, h2, h3, h4⟩)
  go_ret
  exact ⟨a2, rfl, h1, h2, h3, h4⟩

end Go.Proofs.Qxb6001749a
