/-
  THE SEAT's OWN WORDS: what a slice of strings shows in a world; the first place of a string. No walk here.
-/
import Derived.Test.Qxb6000665aProg
import Derived.WalkKit
import Derived.WalkSpells
import Derived.RegionTactic
import Derived.WalkSmall
import Derived.Deep.OwnRows
namespace Go.Proofs.Qxb6000665a
open Go.RowKit

theorem hid {p : Prop} (h : p) : Hid p := h
theorem ret_bool {a b : Bool} (h : a = b) : Ending.returned (.bool a) = .returned (.bool b) := by rw [h]

/-- The i-th string. -/
def at_ (l : List ByteArray) (i : Nat) : ByteArray := l.getD i ByteArray.empty

theorem at_mem (l : List ByteArray) (i : Nat) (h : i < l.length) : at_ l i ∈ l := by
  have : at_ l i = l[i] := by simp [at_, List.getD, h]
  rw [this]
  exact List.getElem_mem _

theorem mem_at {l : List ByteArray} {s : ByteArray} (h : s ∈ l) : ∃ i, i < l.length ∧ at_ l i = s := by
  obtain ⟨i, hi, e⟩ := List.getElem_of_mem h
  exact ⟨i, hi, by simp [at_, List.getD, hi, e]⟩

/-- The slice (ao, l.length, cap), if it is not nil, lies in block b and shows the strings l. -/
def SView (w : World) (b : Nat) (ao : Option Addr) (cap : Nat) (l : List ByteArray) : Prop :=
  (ao = none ∧ cap = 0 ∧ l = []) ∨
  ∃ off, ao = some ⟨b, off, none⟩ ∧ l.length ≤ cap ∧ cap ≤ maxLen ∧ ∀ i, i < l.length → w.cell? ⟨b, off + i, none⟩ = some (.string (at_ l i))

theorem SView.nil (w : World) (b : Nat) : SView w b none 0 [] := .inl ⟨rfl, rfl, rfl⟩

theorem SView.small {w : World} {b cap : Nat} {ao : Option Addr} {l : List ByteArray} (h : SView w b ao cap l) : l.length ≤ 9223372036854775807 := by
  rcases h with ⟨_, _, rfl⟩ | ⟨off, _, h1, h2, _⟩
  · simp
  · unfold maxLen at h2; omega

theorem SView.drewN {w : World} {b cap : Nat} {ao : Option Addr} {l : List ByteArray} (h : SView w b ao cap l) (q : Nat) : SView (w.drewN q) b ao cap l := h

theorem SView.below {w w' : World} {B b cap : Nat} {ao : Option Addr} {l : List ByteArray} (h : SView w b ao cap l) (hB : Below B w w') (hb : ao = none ∨ b < B) : SView w' b ao cap l := by
  rcases h with h | ⟨off, h0, h1, h2, h3⟩
  · exact .inl h
  · refine .inr ⟨off, h0, h1, h2, fun i hi => (hB.cell (by
      rcases hb with h | h
      · rw [h0] at h; cases h
      · exact h)).trans (h3 i hi)⟩

/-- s stands first at place p. -/
def First (l : List ByteArray) (s : ByteArray) (p : Nat) : Prop := p < l.length ∧ at_ l p = s ∧ ∀ i, i < p → at_ l i ≠ s

theorem first_or (l : List ByteArray) (s : ByteArray) : (∀ i, i < l.length → at_ l i ≠ s) ∨ ∃ p, First l s p := by
  induction l with
  | nil => exact .inl (by simp)
  | cons x r ih =>
    by_cases hx : x = s
    · exact .inr ⟨0, by simp, hx, fun i hi => by omega⟩
    · rcases ih with h | ⟨p, h1, h2, h3⟩
      · refine .inl fun i hi => ?_
        cases i with
        | zero => exact hx
        | succ i => exact h i (by simpa using hi)
      · refine .inr ⟨p + 1, by simp; omega, h2, fun i hi => ?_⟩
        cases i with
        | zero => exact hx
        | succ i => exact h3 i (by omega)

theorem First.unique {l : List ByteArray} {s : ByteArray} {p q : Nat} (h : First l s p) (k : First l s q) : p = q := by
  rcases Nat.lt_trichotomy p q with h1 | h1 | h1
  · exact absurd h.2.1 (k.2.2 p h1)
  · exact h1
  · exact absurd k.2.1 (h.2.2 q h1)

/-- Two strings are one just where their bytes are. -/
theorem str_beq (a b : ByteArray) : (a.toList == b.toList) = true ↔ a = b := by
  rw [beq_iff_eq]
  constructor
  · intro h
    have ha := Go.ByteArray.toList_eq a
    have hb := Go.ByteArray.toList_eq b
    rw [ha, hb] at h
    have : a.data = b.data := Array.toList_inj.1 h
    cases a; cases b; simp at this; rw [this]
  · rintro rfl; rfl

end Go.Proofs.Qxb6000665a
