/-
  CONTRACTS, SEVENTH PART: the same contracts in the forms that the laws on take want.
-/
import Derived.Test.Qxb6001749aWalkF
namespace Go.Proofs.Qxb6001749a
open Go.RowKit
set_option linter.unusedVariables false

/-- The copy has no spare room. -/
theorem clone_exact {w : World} {ao : Option Addr} {n c : Nat} {l : List Int} (h : Arg w ao n l) (hn : n ≤ 1048576) :
    Calls Try.prog 12 #[.slice ao n c] w fun e w' => ∃ (ao' : Option Addr) (c' : Nat), e = .returned (.slice ao' n c') ∧ w'.ownsRow w.heap.size 5 1 (.slice ao' n c') n (cellsOf l) ∧ w.grownBy w' none ∧ (ao' = none ∨ c' = n) := by
  obtain ⟨hl, ⟨rfl, rfl⟩ | ⟨x, rfl, hc⟩⟩ := h
  · refine (clone_nil c w).mono ?_
    rintro e w' ⟨rfl, rfl⟩
    obtain rfl := List.eq_nil_of_length_eq_zero hl
    exact ⟨none, 0, rfl, World.ownsRow_nil _ _ _ _, World.grownBy.refl _ _, .inl rfl⟩
  · by_cases h0 : n = 0
    · subst h0
      refine (clone_empty x c w).mono ?_
      rintro e w' ⟨rfl, rfl⟩
      obtain rfl := List.eq_nil_of_length_eq_zero hl
      exact ⟨_, _, rfl, owns_made w [] 0 rfl (by omega), World.grownBy_alloc _ _ _, .inr rfl⟩
    · obtain ⟨b, off, spot⟩ := x
      have hs := World.cell?_spot (hc 0 (by omega))
      have hsp : spot = none := by simpa [Addr.add] using hs
      subst hsp
      have hb := World.block_lt_of_cell? w _ (hc 0 (by omega))
      simp only [Addr.add_lit] at hb hc
      refine (clone_some b off n c l w hl hn (fun _ => hb) hc).mono ?_
      rintro e w' ⟨rfl, rfl⟩
      exact ⟨_, _, rfl, owns_made w l n hl hn, World.grownBy_alloc _ _ _, .inr rfl⟩

/-- The copy: nil; or a row in a block of the call's own, its address written out. -/
theorem clone_split {w : World} {ao : Option Addr} {n c : Nat} {l : List Int} (h : Arg w ao n l) (hn : n ≤ 1048576) :
    Calls Try.prog 12 #[.slice ao n c] w fun e w' => ∃ (ao' : Option Addr) (c' b : Nat), e = .returned (.slice ao' n c') ∧ View w' b ao' c' l ∧ ((ao' = none ∧ c' = 0 ∧ l = []) ∨ (ao' = some ⟨b, 0, none⟩ ∧ b < w'.heap.size ∧ n = c')) ∧ w.heap.size ≤ b ∧ w.grownBy w' none := by
  refine (clone_exact h hn).mono ?_
  rintro e w' ⟨ao', c', rfl, hown, hg, hcn⟩
  obtain ⟨_, b, hb, hb', hv, hlt⟩ := View.of_owns hown w'.heap.size (Nat.le_refl _)
  refine ⟨ao', c', b, rfl, hv, ?_, hb', hg⟩
  rcases hown.2 with ⟨h1, h2⟩ | ⟨g, cap, cur, h1, h2, h3, _⟩
  · simp at h1
    refine .inl ⟨h1.1, h1.2.2, ?_⟩
    have := h.1
    exact List.eq_nil_of_length_eq_zero (by omega)
  · simp at h1
    refine .inr ?_
    have hgb : b = g := by
      rcases hv with ⟨h, _⟩ | ⟨off, h, _⟩
      · rw [h1.1] at h; cases h
      · rw [h1.1] at h; simp at h; omega
    subst hgb
    refine ⟨h1.1, (Array.getElem?_eq_some_iff.1 h3).1, ?_⟩
    rcases hcn with h | h
    · rw [h] at h1; cases h1.1
    · exact h.symm

/-- A reader, of whatever slice. -/
theorem reader_only {w : World} {ao : Option Addr} {n c : Nat} :
    Calls Try.prog 15 #[.slice ao n c] w fun e w' => ∃ R : Nat, e = .returned (.pointer (some ⟨R, 0, none⟩)) ∧ Reader w' R ao n c false ∧ R = w.heap.size ∧ w.grownBy w' none := by
  refine (newReader_any ao n c w).mono ?_
  rintro e w' ⟨rfl, rfl⟩
  exact ⟨w.heap.size, rfl, Reader.made w ao n c, rfl, World.grownBy_alloc w (.cells #[.slice ao n c, .bool false] 41) none⟩

theorem zztake_at {w : World} {R b n cap : Nat} {ao : Option Addr} {bad : Bool} {l : List Int} (h : Reader w R ao n cap bad) (hv : View w b ao cap l) (hl : l.length = n) (hb : b ≠ R) (K : Int) (k : Nat) (hK : K = (k : Int)) (hk : k ≤ n) :
    Calls Try.prog 24 #[.pointer (some ⟨R, 0, none⟩), .int .i64 K] w fun e w' => e = .returned (.slice ao k cap) ∧ ∃ a2 : Option Addr, Reader w' R a2 (n - k) (cap - k) bad ∧
      View w' b ao cap (l.take k) ∧ View w' b a2 (cap - k) (l.drop k) ∧ w.grownBy w' (some R) := by
  subst hK
  refine (zztake_ok h hv hl hb k hk).mono ?_
  rintro e w' ⟨a2, rfl, h1, h2, h3, h4⟩
  exact ⟨rfl, a2, h1, h2, h3, h4⟩

end Go.Proofs.Qxb6001749a
