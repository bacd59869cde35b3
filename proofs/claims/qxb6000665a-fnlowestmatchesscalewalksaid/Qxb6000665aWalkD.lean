/-
  CONTRACTS, FOURTH PART: makeRatings (13), ZZNewRatingFloor (11).
-/
import Derived.Test.Qxb6000665aWalkC
namespace Go.Proofs.Qxb6000665a
open Go.RowKit
set_option linter.unusedVariables false

theorem Try.info47 : (Try.prog.info? 47).map (fun i => (i.zero, i.size, i.bytes)) = some (some (.agg #[.string ByteArray.empty, .string ByteArray.empty]), 2, 32) := by kernel_rfl

theorem run_make47 (n : Nat) (hn : n ≤ 4096) (w : World) : (Instr.makeSlice 30 (.int .i64 (n : Int)) (.int .i64 (n : Int))).run Try.prog w = .ok (.slice (some ⟨w.heap.size, 0, none⟩) n n) (w.alloc (.cells (madeCells #[.string ByteArray.empty, .string ByteArray.empty] (n * 2)) 47)) := by
  obtain ⟨i, hi, hz, hs, hb⟩ := info_parts Try.info47
  have h := run_make (P := Try.prog) w 30 47 i _ Try.underlying30 hi hz .i64 .i64 n n (by omega) (Int.le_refl _) (by rw [hb]; omega) (by omega)
  simpa [hs, Value.cells] using h

/-- The ratings' cells behind k rounds: two a rating: the agency, the grade. -/
def rr (ag gr : List ByteArray) (n k : Nat) : Array Value :=
  (Array.range (n * 2)).map fun j => if j / 2 < k then .string (if j % 2 = 0 then at_ ag (j / 2) else at_ gr (j / 2)) else .string ByteArray.empty

theorem rr_get (ag gr : List ByteArray) (n k j : Nat) (h : j < n * 2) : (rr ag gr n k)[j]? = some (if j / 2 < k then .string (if j % 2 = 0 then at_ ag (j / 2) else at_ gr (j / 2)) else .string ByteArray.empty) := by
  simp [rr, h]

theorem rr_size (ag gr : List ByteArray) (n k : Nat) : (rr ag gr n k).size = n * 2 := by simp [rr]

theorem rr_zero (ag gr : List ByteArray) (n : Nat) : madeCells #[.string ByteArray.empty, .string ByteArray.empty] (n * 2) = rr ag gr n 0 := by
  apply Array.ext
  · simp [madeCells, rr]
  · intro i h1 h2
    simp only [madeCells, rr, Array.getElem_map, Array.getElem_range, Nat.not_lt_zero, if_false]
    have h : i % 2 = 0 ∨ i % 2 = 1 := by omega
    rcases h with h | h <;> simp [h]

theorem rr_step (ag gr : List ByteArray) (n k : Nat) (h : k < n) : ((rr ag gr n k).setIfInBounds (k * 2) (.string (at_ ag k))).setIfInBounds (k * 2 + 1) (.string (at_ gr k)) = rr ag gr n (k + 1) := by
  apply Array.ext_getElem?
  intro j
  rw [Array.getElem?_setIfInBounds, Array.getElem?_setIfInBounds]
  simp only [Array.size_setIfInBounds, rr_size]
  by_cases hj : j < n * 2
  · rw [rr_get ag gr n k j hj, rr_get ag gr n (k + 1) j hj]
    by_cases h1 : k * 2 + 1 = j
    · have e1 : j / 2 = k := by omega
      have e2 : ¬ j % 2 = 0 := by omega
      rw [if_pos h1, if_pos (by omega), if_pos (by omega), if_neg e2, e1]
    · rw [if_neg h1]
      by_cases h2 : k * 2 = j
      · have e1 : j / 2 = k := by omega
        have e2 : j % 2 = 0 := by omega
        rw [if_pos h2, if_pos (by omega), if_pos (by omega), if_pos e2, e1]
      · rw [if_neg h2]
        by_cases h3 : j / 2 < k
        · rw [if_pos h3, if_pos (show j / 2 < k + 1 by omega)]
        · rw [if_neg h3, if_neg (show ¬ j / 2 < k + 1 by omega)]
  · have e1 : (rr ag gr n k)[j]? = none := by rw [Array.getElem?_eq_none]; rw [rr_size]; omega
    have e2 : (rr ag gr n (k + 1))[j]? = none := by rw [Array.getElem?_eq_none]; rw [rr_size]; omega
    rw [e1, e2, if_neg (by omega), if_neg (by omega)]

theorem set_two (w : World) (c : Array Value) (q i j : Nat) (x y : Value) :
    (((w.alloc (.cells c 47)).drewN q).setCell ⟨w.heap.size, i, none⟩ x).setCell ⟨w.heap.size, j, none⟩ y = (w.alloc (.cells ((c.setIfInBounds i x).setIfInBounds j y) 47)).drewN q := by
  have h1 : ((w.alloc (.cells c 47)).drewN q).setCell ⟨w.heap.size, i, none⟩ x = ((w.alloc (.cells c 47)).setCell ⟨w.heap.size, i, none⟩ x).drewN q := rfl
  rw [h1, World.setCell_alloc_at _ _ _ _ _ rfl]
  have h2 : ((w.alloc (.cells (c.setIfInBounds i x) 47)).drewN q).setCell ⟨w.heap.size, j, none⟩ y = ((w.alloc (.cells (c.setIfInBounds i x) 47)).setCell ⟨w.heap.size, j, none⟩ y).drewN q := rfl
  rw [h2, World.setCell_alloc_at _ _ _ _ _ rfl]

theorem make_some (b off b' off' n c c' : Nat) (ag gr : List ByteArray) (w : World) (hn : n ≤ 4096) (hb : b < w.heap.size) (hb' : b' < w.heap.size)
    (hc : Hid (∀ i, i < n → w.cell? ⟨b, off + i, none⟩ = some (.string (at_ ag i))))
    (hc' : Hid (∀ i, i < n → w.cell? ⟨b', off' + i, none⟩ = some (.string (at_ gr i)))) :
    Calls Try.prog 13 #[.slice (some ⟨b, off, none⟩) n c, .slice (some ⟨b', off', none⟩) n c'] w fun e w' => e = .returned (.slice (some ⟨w.heap.size, 0, none⟩) n n) ∧ ∃ q, w' = (w.alloc (.cells (rr ag gr n n) 47)).drewN q := by
  have hmk := run_make47 n hn
  rw [rr_zero ag gr n] at hmk
  go_enter Try.func13, Try.ntmps13
  go_wp2
  go_loopw [6] (fun i wr => ∃ k : Nat, k ≤ n ∧ i = .int .i64 k ∧ ∃ q, wr = (w.alloc (.cells (rr ag gr n k) 47)).drewN q) (fun i _ => n - (intOf i).toNat)
  case atStart => exact ⟨0, Nat.zero_le _, rfl, 0, rfl⟩
  case round =>
    obtain ⟨k, hk, rfl, q, rfl⟩ := hrel
    by_cases hlt : k < n
    · have gx := hc.out k hlt
      have gy := hc'.out k hlt
      have hst := hid (rr_step ag gr n k hlt)
      have h0 := rr_get ag gr n k (k * 2) (by omega)
      have h1 := rr_get ag gr n k (k * 2 + 1) (by omega)
      obtain ⟨v0, h0'⟩ : ∃ v, (rr ag gr n k)[k * 2]? = some v := ⟨_, h0⟩
      obtain ⟨v1, h1'⟩ : ∃ v, (rr ag gr n k)[k * 2 + 1]? = some v := ⟨_, h1⟩
      clear h0 h1
      generalize at_ ag k = x at gx hst
      generalize at_ gr k = y at gy hst
      go_wp2
      go_region
      all_goals go_wp2
      go_roundw
      case rel => exact ⟨k + 1, by omega, by go_num, q + 1, by rw [set_two, hst.out]⟩
      case measure => simp [intOf]; omega
    · obtain rfl : k = n := by omega
      go_wp2
      go_ret
      exact ⟨rfl, q, rfl⟩

theorem make_empty (ao bo : Option Addr) (c d : Nat) (w : World) :
    Calls Try.prog 13 #[.slice ao 0 c, .slice bo 0 d] w fun e w' => e = .returned (.slice (some ⟨w.heap.size, 0, none⟩) 0 0) ∧ w' = w.alloc (.cells #[] 47) := by
  have hmk : ∀ w, (Instr.makeSlice 30 (.int .i64 0) (.int .i64 0)).run Try.prog w = .ok (.slice (some ⟨w.heap.size, 0, none⟩) 0 0) (w.alloc (.cells #[] 47)) := fun w => by
    have h := run_make47 0 (by omega) w
    have e : rr [] [] 0 0 = #[] := by simp [rr]
    rw [rr_zero [] [] 0, e] at h
    exact h
  go_enter Try.func13, Try.ntmps13
  go_wp2
  refine wp_loop_rounds 1 ?_
  rw [rounds_succ]
  go_wp2
  go_ret
  exact ⟨rfl, rfl⟩

/-- The ratings in memory of their own: two cells each. -/
theorem make_any {w : World} {ao bo : Option Addr} {n c d b b' : Nat} {ag gr : List ByteArray} (hv : SView w b ao c ag) (hv' : SView w b' bo d gr) (hl : ag.length = n) (hl' : gr.length = n) (hn : n ≤ 4096) :
    Calls Try.prog 13 #[.slice ao n c, .slice bo n d] w fun e w' => ∃ G : Nat, e = .returned (.slice (some ⟨G, 0, none⟩) n n) ∧ w.grownBy w' none ∧ G < w'.heap.size ∧
      Hid (∀ i, i < n → w'.cell? ⟨G, i * 2, none⟩ = some (.string (at_ ag i)) ∧ w'.cell? ⟨G, i * 2 + 1, none⟩ = some (.string (at_ gr i))) := by
  by_cases h0 : n = 0
  · subst h0
    refine (make_empty ao bo c d w).mono ?_
    rintro e w' ⟨rfl, rfl⟩
    exact ⟨_, rfl, World.grownBy_alloc _ _ _, by simp, fun i hi => by omega⟩
  · rcases hv with ⟨_, _, rfl⟩ | ⟨off, rfl, _, _, hc⟩
    · simp at hl; omega
    rcases hv' with ⟨_, _, rfl⟩ | ⟨off', rfl, _, _, hc'⟩
    · simp at hl'; omega
    rw [hl] at hc
    rw [hl'] at hc'
    refine (make_some b off b' off' n c d ag gr w hn (World.block_lt_of_cell? w _ (hc 0 (by omega))) (World.block_lt_of_cell? w _ (hc' 0 (by omega))) hc hc').mono ?_
    rintro e w' ⟨rfl, q, rfl⟩
    have hg := World.grownBy_alloc w (.cells (rr ag gr n n) 47) none
    refine ⟨w.heap.size, rfl, ⟨hg.os, hg.tape, hg.output, hg.size, hg.block⟩, by show _ < (w.alloc _).heap.size; simp, fun i hi => ?_⟩
    have e1 : (i * 2) / 2 = i := by omega
    have e2 : (i * 2) % 2 = 0 := by omega
    have e3 : (i * 2 + 1) / 2 = i := by omega
    have e4 : ¬ (i * 2 + 1) % 2 = 0 := by omega
    constructor
    · show (w.alloc _).cell? _ = _
      rw [World.cell?_alloc_new, rr_get ag gr n n (i * 2) (by omega), e1, if_pos hi, if_pos e2]
    · show (w.alloc _).cell? _ = _
      rw [World.cell?_alloc_new, rr_get ag gr n n (i * 2 + 1) (by omega), e3, if_pos hi, if_neg e4]

/-- The floor: a struct of two cells. -/
theorem floor_any (ao : Option Addr) (n c : Nat) (s : ByteArray) (w : World) :
    Calls Try.prog 11 #[.slice ao n c, .string s] w fun e w' => e = .returned (.pointer (some ⟨w.heap.size, 0, none⟩)) ∧ w' = w.alloc (.cells #[.slice ao n c, .string s] 45) := by
  go_enter Try.func11, Try.ntmps11
  go_wp2
  go_ret
  exact ⟨rfl, rfl⟩

end Go.Proofs.Qxb6000665a
