/-
  CONTRACTS, SECOND PART: zzb1Clone.
-/
import Derived.Test.Qxb6001749aWalkA
import Derived.Deep.OwnRows
namespace Go.Proofs.Qxb6001749a
open Go.RowKit
set_option linter.unusedVariables false

theorem Try.info5 : (Try.prog.info? 5).map (fun i => (i.zero, i.size, i.bytes)) = some (some (.int .u8 0), 1, 1) := by kernel_rfl

/-- A slice of bytes that came in: its elements are l. -/
def Arg (w : World) (ao : Option Addr) (n : Nat) (l : List Int) : Prop :=
  l.length = n ∧ ((ao = none ∧ n = 0) ∨ ∃ x, ao = some x ∧ ∀ i, i < n → w.cell? (x.add i) = some (.int .u8 (l.getD i 0)))

/-- What the copy's cells hold behind k rounds. -/
def fill (l : List Int) (k : Nat) : Array Value := (cellsOf (l.take k ++ List.replicate (l.length - k) 0)).toArray

theorem fill_size (l : List Int) (k : Nat) (h : k ≤ l.length) : (fill l k).size = l.length := by simp [fill, cellsOf]; omega

theorem fill_zero (l : List Int) (n : Nat) (h : l.length = n) : madeCells #[.int .u8 0] n = fill l 0 := by
  subst h
  apply Array.ext
  · simp [madeCells, fill, cellsOf]
  · intro i h1 h2
    simp [madeCells, fill, cellsOf, Nat.mod_one]

theorem fill_step (l : List Int) (k : Nat) (h : k < l.length) : (fill l k).setIfInBounds k (.int .u8 (l[k]'h)) = fill l (k + 1) := by
  apply Array.ext_getElem?
  intro i
  rw [Array.getElem?_setIfInBounds, fill_size l k (by omega)]
  unfold fill cellsOf
  by_cases hik : k = i
  · subst hik
    simp only [if_true, h, List.getElem?_toArray, List.getElem?_map]
    rw [List.getElem?_append_left (by simp; omega)]
    simp [h]
  · simp only [hik, if_false, List.getElem?_toArray, List.getElem?_map]
    congr 1
    by_cases hi : i < k
    · rw [List.getElem?_append_left (by simp; omega), List.getElem?_append_left (by simp; omega)]
      simp [hi, Nat.lt_succ_of_lt hi]
    · rw [List.getElem?_append_right (by simp; omega), List.getElem?_append_right (by simp; omega)]
      simp only [List.length_take, List.getElem?_replicate]
      have e1 : (i - min k l.length < l.length - k) = (i - min (k + 1) l.length < l.length - (k + 1)) := by
        apply propext; omega
      simp only [e1]

theorem fill_full (l : List Int) : fill l l.length = (cellsOf l).toArray := by simp [fill]

theorem clone_some (b off n c : Nat) (l : List Int) (w : World) (hl : l.length = n) (hn : n ≤ 1048576) (hb : 0 < n → b < w.heap.size)
    (hc : ∀ i, i < n → w.cell? ⟨b, off + i, none⟩ = some (.int .u8 (l.getD i 0))) :
    Calls Try.prog 12 #[.slice (some ⟨b, off, none⟩) n c] w fun e w' => e = .returned (.slice (some ⟨w.heap.size, 0, none⟩) n n) ∧ w' = w.alloc (.cells (cellsOf l).toArray 5) := by
  have q22 : ∀ (w : World) (a : Option Addr) (n c n' c' : Nat), (binOp .eql 22 (.slice a n c) (.slice none n' c')).run Try.prog w = .ok (.bool a.isNone) w := fun w a n c n' c' => Lib.run_eql_slice_nil w _ _ a n c n' c' Try.underlying22
  have hmk := run_make_row' (P := Try.prog) 22 5 (.int .u8 0) 1 Try.underlying22 Try.info5 rfl .i64 .i64 n (by omega) (by omega)
  have f0 := fill_zero l n hl
  go_enter Try.func12, Try.ntmps12
  go_wp2
  go_loopw [4] (fun i wr => ∃ k : Nat, k ≤ n ∧ i = .int .i64 k ∧ wr = w.alloc (.cells (fill l k) 5)) (fun i _ => n - (intOf i).toNat)
  case atStart => exact ⟨0, Nat.zero_le _, rfl, rfl⟩
  case round =>
    obtain ⟨k, hk, rfl, rfl⟩ := hrel
    by_cases hlt : k < n
    · have gx := hc k hlt
      have hb' := hb (by omega)
      have hfs := fill_size l k (by omega)
      rw [hl] at hfs
      go_wp2
      have hst := fill_step l k (by omega)
      go_roundw
      case rel => exact ⟨k + 1, by omega, by go_num, by rw [hst]⟩
      case measure => simp [intOf]; omega
    · go_wp2
      go_ret
      have hkn : k = l.length := by omega
      exact ⟨rfl, by rw [hkn, fill_full]⟩

theorem clone_empty (x : Addr) (c : Nat) (w : World) :
    Calls Try.prog 12 #[.slice (some x) 0 c] w fun e w' => e = .returned (.slice (some ⟨w.heap.size, 0, none⟩) 0 0) ∧ w' = w.alloc (.cells (cellsOf []).toArray 5) := by
  have q22 : ∀ (w : World) (a : Option Addr) (n c n' c' : Nat), (binOp .eql 22 (.slice a n c) (.slice none n' c')).run Try.prog w = .ok (.bool a.isNone) w := fun w a n c n' c' => Lib.run_eql_slice_nil w _ _ a n c n' c' Try.underlying22
  have hmk : ∀ w, (Instr.makeSlice 22 (.int .i64 0) (.int .i64 0)).run Try.prog w = .ok (.slice (some ⟨w.heap.size, 0, none⟩) 0 0) (w.alloc (.cells #[] 5)) := fun w => by
    have h := run_make_row' (P := Try.prog) 22 5 (.int .u8 0) 1 Try.underlying22 Try.info5 rfl .i64 .i64 0 (by omega) (by omega) w
    rw [fill_zero [] 0 rfl] at h
    exact h
  go_enter Try.func12, Try.ntmps12
  go_wp2
  refine wp_loop_rounds 1 ?_
  rw [rounds_succ]
  go_wp2
  go_ret
  exact ⟨rfl, rfl⟩

theorem clone_nil (c : Nat) (w : World) :
    Calls Try.prog 12 #[.slice none 0 c] w fun e w' => e = .returned (.slice none 0 0) ∧ w' = w := by
  have q22 : ∀ (w : World) (a : Option Addr) (n c n' c' : Nat), (binOp .eql 22 (.slice a n c) (.slice none n' c')).run Try.prog w = .ok (.bool a.isNone) w := fun w a n c n' c' => Lib.run_eql_slice_nil w _ _ a n c n' c' Try.underlying22
  go_enter Try.func12, Try.ntmps12
  go_wp2
  go_ret
  exact ⟨rfl, rfl⟩

theorem owns_made (w : World) (l : List Int) (n : Nat) (hl : l.length = n) (hn : n ≤ 1048576) :
    (w.alloc (.cells (cellsOf l).toArray 5)).ownsRow w.heap.size 5 1 (.slice (some ⟨w.heap.size, 0, none⟩) n n) n (cellsOf l) :=
  ⟨by simp [cellsOf, hl], .inr ⟨w.heap.size, n, (cellsOf l).toArray, rfl, Nat.le_refl _, heap_alloc_new w _, Nat.le_refl _, by unfold maxLen; omega, by simp [cellsOf, hl], List.take_of_length_le (by simp [cellsOf, hl])⟩⟩

/-- Whatever slice comes in: a copy in memory of the call's own. -/
theorem clone_any {w : World} {ao : Option Addr} {n c : Nat} {l : List Int} (h : Arg w ao n l) (hn : n ≤ 1048576) :
    Calls Try.prog 12 #[.slice ao n c] w fun e w' => ∃ (ao' : Option Addr) (c' : Nat), e = .returned (.slice ao' n c') ∧ w'.ownsRow w.heap.size 5 1 (.slice ao' n c') n (cellsOf l) ∧ w.grownBy w' none := by
  obtain ⟨hl, ⟨rfl, rfl⟩ | ⟨x, rfl, hc⟩⟩ := h
  · refine (clone_nil c w).mono ?_
    rintro e w' ⟨rfl, rfl⟩
    obtain rfl := List.eq_nil_of_length_eq_zero hl
    exact ⟨none, 0, rfl, World.ownsRow_nil _ _ _ _, World.grownBy.refl _ _⟩
  · by_cases h0 : n = 0
    · subst h0
      refine (clone_empty x c w).mono ?_
      rintro e w' ⟨rfl, rfl⟩
      obtain rfl := List.eq_nil_of_length_eq_zero hl
      exact ⟨_, _, rfl, owns_made w [] 0 rfl (by omega), World.grownBy_alloc _ _ _⟩
    · obtain ⟨b, off, spot⟩ := x
      have hs := World.cell?_spot (hc 0 (by omega))
      have hsp : spot = none := by simpa [Addr.add] using hs
      subst hsp
      have hb := World.block_lt_of_cell? w _ (hc 0 (by omega))
      simp only [Addr.add_lit] at hb hc
      refine (clone_some b off n c l w hl hn (fun _ => hb) hc).mono ?_
      rintro e w' ⟨rfl, rfl⟩
      exact ⟨_, _, rfl, owns_made w l n hl hn, World.grownBy_alloc _ _ _⟩

end Go.Proofs.Qxb6001749a
