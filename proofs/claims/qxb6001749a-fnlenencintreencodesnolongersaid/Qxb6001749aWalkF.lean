/-
  CONTRACTS, SIXTH PART: the bounds on total length (11, 20, 22, 23, 25, 27); a reader made of a copy; what the shells tell of a slice that came in.
-/
import Derived.Test.Qxb6001749aWalkE
import Derived.OpenShut
namespace Go.Proofs.Qxb6001749a
open Go.RowKit
set_option linter.unusedVariables false

/-- WHAT THE WALK IS TOLD OF A SLICE OF INTEGERS THAT CAME IN (the seed's shell): it is nil; or it leads to a row of 'cap' cells, the numbers 'zs' (the first 'len' are its elements, the rest its spare room), each fitting its kind. -/
def IsRow (k : IntKind) (w : World) (a : Option Addr) (len cap : Nat) (zs : List Int) : Prop :=
  (a = none ∧ len = 0 ∧ cap = 0 ∧ zs = []) ∨
  ∃ x, a = some x ∧ len ≤ cap ∧ cap ≤ maxLen ∧ zs.length = cap ∧ (∀ i, i < zs.length → w.cell? (x.add i) = some (.int k (zs.getD i 0))) ∧ ∀ n ∈ zs, (Lit.int k n).wf = true

theorem IsRow.arg {w : World} {a : Option Addr} {len cap : Nat} {zs : List Int} (h : IsRow .u8 w a len cap zs) :
    Arg w a len (zs.take len) ∧ (∀ x ∈ zs.take len, 0 ≤ x ∧ x ≤ 255) ∧ len ≤ 9223372036854775807 := by
  rcases h with ⟨rfl, rfl, rfl, rfl⟩ | ⟨x, rfl, h1, h2, h3, h4, h5⟩
  · exact ⟨⟨rfl, .inl ⟨rfl, rfl⟩⟩, by simp, by omega⟩
  · refine ⟨⟨by simp; omega, .inr ⟨x, rfl, fun i hi => ?_⟩⟩, fun y hy => ?_, by unfold maxLen at h2; omega⟩
    · rw [h4 i (by omega)]
      simp [List.getD, hi]
    · have := bounds_u8 (h5 y (List.mem_of_mem_take hy))
      omega

theorem IsRow.small {w : World} {a : Option Addr} {len cap : Nat} {zs : List Int} {k : IntKind} (h : IsRow k w a len cap zs) : len ≤ 9223372036854775807 := by
  rcases h with ⟨rfl, rfl, rfl, rfl⟩ | ⟨x, rfl, h1, h2, _⟩
  · omega
  · unfold maxLen at h2; omega

theorem Arg.kept {w w' : World} {ao : Option Addr} {n : Nat} {l : List Int} (h : Arg w ao n l) (hg : w.grownBy w' none) : Arg w' ao n l := by
  obtain ⟨hl, h0 | ⟨x, hx, hc⟩⟩ := h
  · exact ⟨hl, .inl h0⟩
  · exact ⟨hl, .inr ⟨x, hx, fun i hi => hg.cell (hc i hi) (by simp)⟩⟩

/-! ### The bounds on total length -/
theorem bytes20_no (ao : Option Addr) (n c : Nat) (w : World) (h : 1048576 < n) :
    Calls Try.prog 20 #[.slice ao n c] w fun e w' => e = .returned (.bool false) ∧ w' = w := by
  go_enter Try.func20, Try.ntmps20
  go_wp2
  go_ret
  exact ⟨rfl, rfl⟩

theorem bytes20_yes (ao : Option Addr) (n c : Nat) (w : World) (h : n ≤ 1048576) :
    Calls Try.prog 20 #[.slice ao n c] w fun e w' => e = .returned (.bool true) ∧ w' = w := by
  go_enter Try.func20, Try.ntmps20
  go_wp2
  go_ret
  exact ⟨rfl, rfl⟩

theorem bytes22_no (ao : Option Addr) (n c : Nat) (w : World) (h : 1048576 < n) :
    Calls Try.prog 22 #[.slice ao n c] w fun e w' => e = .returned (.bool false) ∧ w' = w := by
  go_enter Try.func22, Try.ntmps22
  go_wp2
  go_ret
  exact ⟨rfl, rfl⟩

theorem bytes22_yes (ao : Option Addr) (n c : Nat) (w : World) (h : n ≤ 1048576) :
    Calls Try.prog 22 #[.slice ao n c] w fun e w' => e = .returned (.bool true) ∧ w' = w := by
  go_enter Try.func22, Try.ntmps22
  go_wp2
  go_ret
  exact ⟨rfl, rfl⟩

theorem bytes27_no (ao : Option Addr) (n c : Nat) (w : World) (h : 1048576 < n) :
    Calls Try.prog 27 #[.slice ao n c] w fun e w' => e = .returned (.bool false) ∧ w' = w := by
  go_enter Try.func27, Try.ntmps27
  go_wp2
  go_ret
  exact ⟨rfl, rfl⟩

theorem bytes27_yes (ao : Option Addr) (n c : Nat) (w : World) (h : n ≤ 1048576) :
    Calls Try.prog 27 #[.slice ao n c] w fun e w' => e = .returned (.bool true) ∧ w' = w := by
  go_enter Try.func27, Try.ntmps27
  go_wp2
  go_ret
  exact ⟨rfl, rfl⟩

theorem bytes23_no (ao : Option Addr) (n c : Nat) (x y : Int) (w : World) (h : 1048576 < n) :
    Calls Try.prog 23 #[.slice ao n c, .int .i64 x, .int .i64 y] w fun e w' => e = .returned (.bool false) ∧ w' = w := by
  go_enter Try.func23, Try.ntmps23
  go_wp2
  go_ret
  exact ⟨rfl, rfl⟩

theorem bytes23_yes (ao : Option Addr) (n c : Nat) (x y : Int) (w : World) (h : n ≤ 1048576) :
    Calls Try.prog 23 #[.slice ao n c, .int .i64 x, .int .i64 y] w fun e w' => e = .returned (.bool true) ∧ w' = w := by
  go_enter Try.func23, Try.ntmps23
  go_wp2
  go_ret
  exact ⟨rfl, rfl⟩

theorem bytes11_no (ao bo : Option Addr) (n c m d : Nat) (x : Int) (w : World) (h : 1048576 < n + m) (hn : n ≤ 9223372036854775807) (hm : m ≤ 9223372036854775807) :
    Calls Try.prog 11 #[.slice ao n c, .int .u64 x, .slice bo m d] w fun e w' => e = .returned (.bool false) ∧ w' = w := by
  by_cases h1 : 1048576 < n
  · go_enter Try.func11, Try.ntmps11
    go_wp2
    go_ret
    exact ⟨rfl, rfl⟩
  · by_cases h2 : 1048576 < m
    · go_enter Try.func11, Try.ntmps11
      go_wp2
      go_ret
      exact ⟨rfl, rfl⟩
    · go_enter Try.func11, Try.ntmps11
      go_wp2
      go_ret
      exact ⟨rfl, rfl⟩

theorem bytes11_yes (ao bo : Option Addr) (n c m d : Nat) (x : Int) (w : World) (h : n + m ≤ 1048576) :
    Calls Try.prog 11 #[.slice ao n c, .int .u64 x, .slice bo m d] w fun e w' => e = .returned (.bool true) ∧ w' = w := by
  go_enter Try.func11, Try.ntmps11
  go_wp2
  go_ret
  exact ⟨rfl, rfl⟩

theorem bytes25_no (s : ByteArray) (bo : Option Addr) (m d : Nat) (w : World) (h : 1048576 < s.size + m) (hn : s.size ≤ 9223372036854775807) (hm : m ≤ 9223372036854775807) :
    Calls Try.prog 25 #[.string s, .slice bo m d] w fun e w' => e = .returned (.bool false) ∧ w' = w := by
  by_cases h1 : 1048576 < s.size
  · go_enter Try.func25, Try.ntmps25
    go_wp2
    go_ret
    exact ⟨rfl, rfl⟩
  · by_cases h2 : 1048576 < m
    · go_enter Try.func25, Try.ntmps25
      go_wp2
      go_ret
      exact ⟨rfl, rfl⟩
    · go_enter Try.func25, Try.ntmps25
      go_wp2
      go_ret
      exact ⟨rfl, rfl⟩

theorem bytes25_yes (s : ByteArray) (bo : Option Addr) (m d : Nat) (w : World) (h : s.size + m ≤ 1048576) :
    Calls Try.prog 25 #[.string s, .slice bo m d] w fun e w' => e = .returned (.bool true) ∧ w' = w := by
  go_enter Try.func25, Try.ntmps25
  go_wp2
  go_ret
  exact ⟨rfl, rfl⟩

/-! ### A copy that can be read, and a reader over it -/
/-- The copy, as a view: its block is one of the call's own, and not the next block that is laid. -/
theorem clone_view {w : World} {ao : Option Addr} {n c : Nat} {l : List Int} (h : Arg w ao n l) (hn : n ≤ 1048576) :
    Calls Try.prog 12 #[.slice ao n c] w fun e w' => ∃ (ao' : Option Addr) (c' b : Nat), e = .returned (.slice ao' n c') ∧ View w' b ao' c' l ∧ b ≠ w'.heap.size ∧ w.heap.size ≤ b ∧ w.grownBy w' none := by
  refine (clone_any h hn).mono ?_
  rintro e w' ⟨ao', c', rfl, hown, hg⟩
  obtain ⟨_, b, hb, hb', hv, _⟩ := View.of_owns hown w'.heap.size (Nat.le_refl _)
  exact ⟨ao', c', b, rfl, hv, hb, hb', hg⟩

theorem reader_view {w : World} {ao : Option Addr} {n c b : Nat} {l : List Int} (hv : View w b ao c l) (hb : b ≠ w.heap.size) :
    Calls Try.prog 15 #[.slice ao n c] w fun e w' => ∃ R : Nat, e = .returned (.pointer (some ⟨R, 0, none⟩)) ∧ Reader w' R ao n c false ∧ View w' b ao c l ∧ b ≠ R ∧ w.heap.size ≤ R ∧ w.grownBy w' none := by
  refine (newReader_any ao n c w).mono ?_
  rintro e w' ⟨rfl, rfl⟩
  have hg := World.grownBy_alloc w (.cells #[.slice ao n c, .bool false] 41) none
  exact ⟨w.heap.size, rfl, Reader.made w ao n c, hv.kept hg (by simp), hb, Nat.le_refl _, hg⟩

/-- Below: a step that writes one of the call's own blocks, or none. -/
theorem bel_none {w a b : World} (h : Below w.heap.size w a) (g : a.grownBy b none) : Below w.heap.size w b := h.grown g h.size (fun k e => by cases e)
theorem bel_some {w a b : World} {R : Nat} (h : Below w.heap.size w a) (g : a.grownBy b (some R)) (hR : w.heap.size ≤ R) : Below w.heap.size w b := h.grown g h.size (fun k e => by cases e; exact hR)
theorem bel_start {w a : World} (g : w.grownBy a none) : Below w.heap.size w a := bel_none (Below.refl _ _) g

end Go.Proofs.Qxb6001749a
