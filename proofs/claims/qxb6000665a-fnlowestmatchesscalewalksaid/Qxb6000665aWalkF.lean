/-
  SMALL WORDS FOR THE LAW's WALK: who is eligible, as bools; the row of bools; a view's cells.
-/
import Derived.Test.Qxb6000665aWalkE
namespace Go.Proofs.Qxb6000665a
open Go.RowKit
set_option linter.unusedVariables false

theorem Try.info4 : (Try.prog.info? 4).map (fun i => (i.zero, i.size, i.bytes)) = some (some (.bool false), 1, 1) := by kernel_rfl

def eB (ag ex : List ByteArray) (k : Nat) : Bool := !(ex.any fun x => x.toList == (at_ ag k).toList)

theorem eB_true {ag ex : List ByteArray} {k : Nat} (h : Elig ag ex k) : eB ag ex k = true := by
  unfold eB
  rw [Bool.not_eq_true', List.any_eq_false]
  intro x hx
  obtain ⟨i, hi, rfl⟩ := mem_at hx
  have := bne_str (h i hi)
  simp [this]

theorem eB_false {ag ex : List ByteArray} {k : Nat} {p : Nat} (h : First ex (at_ ag k) p) : eB ag ex k = false := by
  unfold eB
  rw [Bool.not_eq_false', List.any_eq_true]
  exact ⟨at_ ex p, at_mem ex p h.1, (str_beq _ _).2 h.2.1⟩

theorem eB_elig {ag ex : List ByteArray} {k : Nat} (h : eB ag ex k = true) : Elig ag ex k := by
  intro i hi he
  unfold eB at h
  rw [Bool.not_eq_true', List.any_eq_false] at h
  have := h (at_ ex i) (at_mem ex i hi)
  rw [he] at this
  simp at this

/-- The row of bools behind k rounds. -/
def bfill (ag ex : List ByteArray) (n k : Nat) : Array Value := (Array.range n).map fun j => .bool (if j < k then eB ag ex j else false)

theorem bfill_get (ag ex : List ByteArray) (n k j : Nat) (h : j < n) : (bfill ag ex n k)[j]? = some (.bool (if j < k then eB ag ex j else false)) := by simp [bfill, h]

theorem bfill_size (ag ex : List ByteArray) (n k : Nat) : (bfill ag ex n k).size = n := by simp [bfill]

theorem bfill_zero (ag ex : List ByteArray) (n : Nat) : madeCells #[.bool false] n = bfill ag ex n 0 := by
  apply Array.ext
  · simp [madeCells, bfill]
  · intro i h1 h2
    simp [madeCells, bfill, Nat.mod_one]

theorem bfill_step (ag ex : List ByteArray) (n k : Nat) (h : k < n) : (bfill ag ex n k).setIfInBounds k (.bool (eB ag ex k)) = bfill ag ex n (k + 1) := by
  apply Array.ext_getElem?
  intro j
  rw [Array.getElem?_setIfInBounds, bfill_size]
  by_cases hj : j < n
  · rw [bfill_get ag ex n k j hj, bfill_get ag ex n (k + 1) j hj]
    by_cases h1 : k = j
    · subst h1
      rw [if_pos rfl, if_pos h, if_pos (show k < k + 1 by omega)]
    · rw [if_neg h1]
      by_cases h2 : j < k
      · rw [if_pos h2, if_pos (show j < k + 1 by omega)]
      · rw [if_neg h2, if_neg (show ¬ j < k + 1 by omega)]
  · have e1 : (bfill ag ex n k)[j]? = none := by rw [Array.getElem?_eq_none]; rw [bfill_size]; omega
    have e2 : (bfill ag ex n (k + 1))[j]? = none := by rw [Array.getElem?_eq_none]; rw [bfill_size]; omega
    rw [e1, e2, if_neg (by omega)]

theorem SView.cells {w : World} {b cap n : Nat} {ao : Option Addr} {l : List ByteArray} (h : SView w b ao cap l) (hl : l.length = n) (hn : 0 < n) : ∃ off, ao = some ⟨b, off, none⟩ ∧ n ≤ cap ∧ cap ≤ 9223372036854775807 ∧ ∀ i, i < n → w.cell? ⟨b, off + i, none⟩ = some (.string (at_ l i)) := by
  subst hl
  rcases h with ⟨_, _, rfl⟩ | ⟨off, h0, h1, h2, h3⟩
  · simp at hn
  · exact ⟨off, h0, h1, by unfold maxLen at h2; exact h2, h3⟩

theorem SView.front {w : World} {b cap : Nat} {ao : Option Addr} {l : List ByteArray} (h : SView w b ao cap l) (k : Nat) : SView w b ao cap (l.take k) := by
  rcases h with ⟨h0, h1, rfl⟩ | ⟨off, h0, h1, h2, h3⟩
  · exact .inl ⟨h0, h1, by simp⟩
  · refine .inr ⟨off, h0, by simp; omega, h2, fun i hi => ?_⟩
    have hi' : i < k ∧ i < l.length := by simp at hi; omega
    rw [h3 i hi'.2]
    simp [at_, List.getD, hi'.1]

theorem at_take (l : List ByteArray) (k i : Nat) (h : i < k) : at_ (l.take k) i = at_ l i := by simp [at_, List.getD, h]

theorem bel_none {w a b : World} (h : Below w.heap.size w a) (g : a.grownBy b none) : Below w.heap.size w b := h.grown g h.size (fun k e => by cases e)
theorem bel_start {w a : World} (g : w.grownBy a none) : Below w.heap.size w a := bel_none (Below.refl _ _) g

theorem SArg.kept {w w' : World} {ao : Option Addr} {n : Nat} {l : List ByteArray} (h : SArg w ao n l) (hg : w.grownBy w' none) : SArg w' ao n l := by
  obtain ⟨hl, h0, hc⟩ := h
  refine ⟨hl, h0, fun hn => ?_⟩
  obtain ⟨b, off, e, hb, hcell⟩ := hc hn
  exact ⟨b, off, e, Nat.lt_of_lt_of_le hb hg.size, fun i hi => hg.cell (hcell i hi) (by simp)⟩

end Go.Proofs.Qxb6000665a
