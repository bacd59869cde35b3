/-
  CONTRACTS: a code appended to a row of the call's own, its address written out; a view taken for an argument.
-/
import Derived.Test.Qxb6001749aWalkI
namespace Go.Proofs.Qxb6001749a
open Go.RowKit
set_option linter.unusedVariables false

theorem View.toArg {w : World} {b cap n : Nat} {ao : Option Addr} {l : List Int} (h : View w b ao cap l) (hn : l.length = n) : Arg w ao n l := by
  subst hn
  rcases h with ⟨rfl, _, rfl⟩ | ⟨off, rfl, _, _, h3⟩
  · exact ⟨rfl, .inl ⟨rfl, rfl⟩⟩
  · exact ⟨rfl, .inr ⟨_, rfl, fun i hi => by rw [Addr.add_lit]; exact h3 i hi⟩⟩

/-- The code is appended to a copy. -/
theorem zzappend_row {w : World} {ao : Option Addr} {n cap base nx : Nat} {l : List Int} (x : Int) (hnx : Hid ((enc x).length = nx)) (h : w.ownsRow base 5 1 (.slice ao n cap) n (cellsOf l)) (hb : base ≤ w.heap.size) (hn : n ≤ 2097152) (h0 : 0 ≤ x) (h1 : x < 18446744073709551616) :
    Calls Try.prog 13 #[.slice ao n cap, .int .u64 x] w fun e w' => ∃ g cap' : Nat, e = .returned (.slice (some ⟨g, 0, none⟩) (n + nx) cap') ∧ View w' g (some ⟨g, 0, none⟩) cap' (l ++ enc x) ∧ n + nx ≤ cap' ∧ cap' ≤ 9223372036854775807 ∧ base ≤ g ∧ g < w'.heap.size ∧
      w.heap.size ≤ w'.heap.size ∧ (∀ v : World, base ≤ v.heap.size → Below base v w → Below base v w') := by
  refine (zzappend_any x h hb hn h0 h1).mono ?_
  rintro e w' ⟨ao', cap', rfl, hown, hg⟩
  rw [hnx.out] at hown ⊢
  have hp := enc_pos x
  rw [hnx.out] at hp
  have hlt := h.lt
  rcases hown.2 with ⟨_, h⟩ | ⟨g, cap, cur, he, hg', hh, hle, hmx, _⟩
  · omega
  · simp at he
    obtain ⟨rfl, rfl⟩ := he
    obtain ⟨_, hv, hgl⟩ := View.of_row hown
    refine ⟨g, cap', rfl, hv, hle, by unfold maxLen at hmx; exact hmx, hg', hgl, hg.size, ?_⟩
    intro v hv0 hbv
    exact hbv.grown hg (by have := hbv.size; omega) (fun k hk => (hlt k hk).1)

end Go.Proofs.Qxb6001749a
