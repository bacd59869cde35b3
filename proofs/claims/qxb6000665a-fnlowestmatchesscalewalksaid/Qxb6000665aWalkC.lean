/-
  CONTRACTS, THIRD PART: copyStrings (10).
-/
import Derived.Test.Qxb6000665aWalkB
namespace Go.Proofs.Qxb6000665a
open Go.RowKit
set_option linter.unusedVariables false

theorem Try.info9 : (Try.prog.info? 9).map (fun i => (i.zero, i.size, i.bytes)) = some (some (.string ByteArray.empty), 1, 16) := by kernel_rfl

theorem eq22 (w : World) (a : Option Addr) (n c n' c' : Nat) : (binOp .eql 22 (.slice a n c) (.slice none n' c')).run Try.prog w = .ok (.bool a.isNone) w := Lib.run_eql_slice_nil w _ _ a n c n' c' Try.underlying22

/-- What the copy's cells hold behind k rounds. -/
def sfill (l : List ByteArray) (k : Nat) : Array Value := ((l.take k ++ List.replicate (l.length - k) ByteArray.empty).map Value.string).toArray

theorem sfill_size (l : List ByteArray) (k : Nat) (h : k ≤ l.length) : (sfill l k).size = l.length := by simp [sfill]; omega

theorem sfill_zero (l : List ByteArray) (n : Nat) (h : l.length = n) : madeCells #[.string ByteArray.empty] n = sfill l 0 := by
  subst h
  apply Array.ext
  · simp [madeCells, sfill]
  · intro i h1 h2
    simp [madeCells, sfill, Nat.mod_one]

theorem sfill_step (l : List ByteArray) (k : Nat) (h : k < l.length) : (sfill l k).setIfInBounds k (.string (at_ l k)) = sfill l (k + 1) := by
  apply Array.ext_getElem?
  intro i
  rw [Array.getElem?_setIfInBounds, sfill_size l k (by omega)]
  unfold sfill
  by_cases hik : k = i
  · subst hik
    simp only [if_true, h, List.getElem?_toArray, List.getElem?_map]
    rw [List.getElem?_append_left (by simp; omega)]
    simp [h, at_, List.getD]
  · simp only [hik, if_false, List.getElem?_toArray, List.getElem?_map]
    congr 1
    by_cases hi : i < k
    · rw [List.getElem?_append_left (by simp; omega), List.getElem?_append_left (by simp; omega)]
      simp [hi, Nat.lt_succ_of_lt hi]
    · rw [List.getElem?_append_right (by simp; omega), List.getElem?_append_right (by simp; omega)]
      simp only [List.length_take, List.getElem?_replicate]
      have e1 : (i - min k l.length < l.length - k) = (i - min (k + 1) l.length < l.length - (k + 1)) := by
        apply propext; omega
      simp only [e1]

theorem sfill_full_get (l : List ByteArray) (i : Nat) (h : i < l.length) : (sfill l l.length)[i]? = some (.string (at_ l i)) := by
  simp [sfill, h, at_, List.getD]

theorem copy_some (b off n c : Nat) (l : List ByteArray) (w : World) (hl : Hid (l.length = n)) (hn : n ≤ 4096) (hb : 0 < n → b < w.heap.size)
    (hc : Hid (∀ i, i < n → w.cell? ⟨b, off + i, none⟩ = some (.string (at_ l i)))) :
    Calls Try.prog 10 #[.slice (some ⟨b, off, none⟩) n c] w fun e w' => e = .returned (.slice (some ⟨w.heap.size, 0, none⟩) n n) ∧ w' = w.alloc (.cells (sfill l n) 9) := by
  have q22 := eq22
  have hmk := run_make_row' (P := Try.prog) 22 9 (.string ByteArray.empty) 16 Try.underlying22 Try.info9 rfl .i64 .i64 n (by omega) (by omega)
  have f0 := sfill_zero l n hl.out
  go_enter Try.func10, Try.ntmps10
  go_wp2
  go_loopw [4] (fun i wr => ∃ k : Nat, k ≤ n ∧ i = .int .i64 k ∧ wr = w.alloc (.cells (sfill l k) 9)) (fun i _ => n - (intOf i).toNat)
  case atStart => exact ⟨0, Nat.zero_le _, rfl, rfl⟩
  case round =>
    obtain ⟨k, hk, rfl, rfl⟩ := hrel
    by_cases hlt : k < n
    · have gx := hc.out k hlt
      have hb' := hb (by omega)
      have hfs := sfill_size l k (by rw [hl.out]; omega)
      rw [hl.out] at hfs
      have hst := hid (sfill_step l k (by rw [hl.out]; exact hlt))
      generalize at_ l k = x at gx hst
      go_wp2
      go_roundw
      case rel => exact ⟨k + 1, by omega, by go_num, by rw [hst.out]⟩
      case measure => simp [intOf]; omega
    · obtain rfl : k = n := by omega
      go_wp2
      go_ret
      exact ⟨rfl, rfl⟩

theorem copy_empty (x : Addr) (c : Nat) (w : World) :
    Calls Try.prog 10 #[.slice (some x) 0 c] w fun e w' => e = .returned (.slice (some ⟨w.heap.size, 0, none⟩) 0 0) ∧ w' = w.alloc (.cells #[] 9) := by
  have q22 := eq22
  have hmk : ∀ w, (Instr.makeSlice 22 (.int .i64 0) (.int .i64 0)).run Try.prog w = .ok (.slice (some ⟨w.heap.size, 0, none⟩) 0 0) (w.alloc (.cells #[] 9)) := fun w => by
    have h := run_make_row' (P := Try.prog) 22 9 (.string ByteArray.empty) 16 Try.underlying22 Try.info9 rfl .i64 .i64 0 (by omega) (by omega) w
    rw [sfill_zero [] 0 rfl] at h
    exact h
  go_enter Try.func10, Try.ntmps10
  go_wp2
  refine wp_loop_rounds 1 ?_
  rw [rounds_succ]
  go_wp2
  go_ret
  exact ⟨rfl, rfl⟩

theorem copy_nil (c : Nat) (w : World) :
    Calls Try.prog 10 #[.slice none 0 c] w fun e w' => e = .returned (.slice none 0 0) ∧ w' = w := by
  have q22 := eq22
  go_enter Try.func10, Try.ntmps10
  go_wp2
  go_ret
  exact ⟨rfl, rfl⟩

/-- Whatever slice comes in: a copy, which stands in every later world. -/
theorem copy_any {w : World} {ao : Option Addr} {n c : Nat} {l : List ByteArray} (h : SArg w ao n l) (hn : n ≤ 4096) :
    Calls Try.prog 10 #[.slice ao n c] w fun e w' => ∃ (ao' : Option Addr) (c' : Nat), e = .returned (.slice ao' n c') ∧ w.grownBy w' none ∧ Hid (∀ v, Below w'.heap.size w' v → ∃ b, SView v b ao' c' l ∧ (0 < n → b < w'.heap.size)) := by
  obtain ⟨hl, h0, hc⟩ := h
  cases ao with
  | none =>
    obtain rfl := h0 rfl
    obtain rfl := List.eq_nil_of_length_eq_zero hl
    refine (copy_nil c w).mono ?_
    rintro e w' ⟨rfl, rfl⟩
    exact ⟨none, 0, rfl, World.grownBy.refl _ _, fun v _ => ⟨0, SView.nil _ _, fun h => by omega⟩⟩
  | some x =>
    by_cases hz : n = 0
    · subst hz
      obtain rfl := List.eq_nil_of_length_eq_zero hl
      refine (copy_empty x c w).mono ?_
      rintro e w' ⟨rfl, rfl⟩
      refine ⟨_, _, rfl, World.grownBy_alloc _ _ _, fun v hb => ⟨w.heap.size, .inr ⟨0, rfl, by simp, by unfold maxLen; omega, fun i hi => by simp at hi⟩, fun h => by omega⟩⟩
    · obtain ⟨b, off, hx, hb, hcell⟩ := hc (by omega)
      obtain rfl := Option.some.inj hx
      refine (copy_some b off n c l w hl hn (fun _ => hb) hcell).mono ?_
      rintro e w' ⟨rfl, rfl⟩
      refine ⟨_, _, rfl, World.grownBy_alloc _ _ _, fun v hb => ⟨w.heap.size, .inr ⟨0, rfl, by omega, by unfold maxLen; omega, fun i hi => ?_⟩, fun _ => by simp⟩⟩
      rw [hb.cell (by simp), Nat.zero_add, World.cell?_alloc_new, ← hl]
      exact sfill_full_get l i hi

end Go.Proofs.Qxb6000665a
