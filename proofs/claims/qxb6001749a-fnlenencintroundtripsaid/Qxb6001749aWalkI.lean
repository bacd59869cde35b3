/-
  A string's bytes as numbers. ZZNulString (26).
-/
import Derived.Test.Qxb6001749aWalkH
namespace Go.Proofs.Qxb6001749a
open Go.RowKit
set_option linter.unusedVariables false

/-- A string's bytes. -/
def bo (s : ByteArray) : List Int := s.data.toList.map fun c => (c.toNat : Int)

theorem bo_length (s : ByteArray) : (bo s).length = s.size := by
  unfold bo
  rw [List.length_map]
  rfl

theorem bo_get? (s : ByteArray) (k : Nat) (h : k < s.size) : (bo s)[k]? = some ((s[k]'h).toNat : Int) := by
  unfold bo
  have h' : k < s.data.toList.length := h
  rw [List.getElem?_map, List.getElem?_eq_getElem h']
  rfl

theorem bo_get (s : ByteArray) (k : Nat) (h : k < s.size) : (bo s).getD k 0 = ((s[k]'h).toNat : Int) := by
  unfold List.getD
  rw [bo_get? s k h]
  rfl

theorem bo_take (s : ByteArray) (k : Nat) (h : k < s.size) : (bo s).take (k + 1) = (bo s).take k ++ [((s[k]'h).toNat : Int)] := by
  rw [List.take_add_one, bo_get? s k h]
  rfl

theorem bo_str (s : ByteArray) : strOfNums (bo s) = s := by
  unfold strOfNums bo
  rw [List.map_map]
  have : (List.map ((fun n : Int => UInt8.ofNat n.toNat) ∘ fun c : UInt8 => (c.toNat : Int)) s.data.toList) = s.data.toList := by
    rw [List.map_congr_left (g := id)]
    · simp
    · intro a _
      simp
  rw [this]

theorem bo_byte (s : ByteArray) : ∀ x ∈ bo s, 0 ≤ x ∧ x ≤ 255 := by
  intro x hx
  obtain ⟨c, _, rfl⟩ := List.mem_map.1 hx
  have := c.toNat_lt
  omega

theorem zznul_none {w : World} {R b n cap : Nat} {ao : Option Addr} {bad : Bool} {l : List Int} (h : Reader w R ao n cap bad) (hv : View w b ao cap l) (hl : l.length = n) (h0 : ∀ i, i < n → (0 == l.getD i 0) = false) :
    Calls Try.prog 26 #[.pointer (some ⟨R, 0, none⟩)] w fun e w' => e = .returned (.string (strOfNums l)) ∧ Reader w' R none 0 0 bad ∧ w.grownBy w' (some R) := by
  go_enter Try.func26, Try.ntmps26
  go_wp2_with (go_at_call 32; refine (nul_none h hv hl h0).mono ?_; rintro e w' ⟨rfl, h1, h2⟩)
  go_ret
  exact ⟨rfl, h1, h2⟩

theorem zznul_some {w : World} {R b n cap : Nat} {ao : Option Addr} {bad : Bool} {l : List Int} (h : Reader w R ao n cap bad) (hv : View w b ao cap l) (hl : l.length = n) (hb : b ≠ R) (p : Nat) (hp : p < n) (h0 : ∀ i, i < p → (0 == l.getD i 0) = false) (h1 : l.getD p 0 = 0) :
    Calls Try.prog 26 #[.pointer (some ⟨R, 0, none⟩)] w fun e w' => e = .returned (.string (strOfNums (l.take p))) ∧ ∃ a2 : Option Addr, Reader w' R a2 (n - (p + 1)) (cap - (p + 1)) bad ∧ View w' b a2 (cap - (p + 1)) (l.drop (p + 1)) ∧ w.grownBy w' (some R) := by
  have H := (show Hid _ from nul_some h hv hl hb p hp h0 h1)
  clear h hv hl hb hp h0 h1
  go_enter Try.func26, Try.ntmps26
  go_wp2_with (go_at_call 32; refine Calls.mono H.out ?_; rintro e w' ⟨rfl, a2, k1, k2, k3⟩)
  go_ret
  exact ⟨rfl, a2, k1, k2, k3⟩

/-- A copy that is made once stands in every later world. -/
theorem clone_stands {w : World} {ao : Option Addr} {n c : Nat} {l : List Int} (h : Arg w ao n l) (hn : n ≤ 1048576) :
    Calls Try.prog 12 #[.slice ao n c] w fun e w' => ∃ (ao' : Option Addr) (c' : Nat), e = .returned (.slice ao' n c') ∧ w.grownBy w' none ∧ Hid (∀ v, Below w'.heap.size w' v → ∃ b, View v b ao' c' l) ∧ (ao' = none → n = 0 ∧ c' = 0) := by
  refine (clone_split h hn).mono ?_
  rintro e w' ⟨ao', c', b, rfl, hv, hs, _, hg⟩
  refine ⟨ao', c', rfl, hg, ?_, ?_⟩
  · intro v hb
    rcases hs with ⟨rfl, rfl, rfl⟩ | ⟨rfl, hlt, rfl⟩
    · exact ⟨0, View.nil _ _⟩
    · rcases hv with ⟨h0, _⟩ | ⟨off, h0, h1, h2, h3⟩
      · cases h0
      · exact ⟨b, .inr ⟨off, h0, h1, h2, fun i hi => (hb.cell (by exact hlt)).trans (h3 i hi)⟩⟩
  · rintro rfl
    rcases hs with ⟨_, rfl, rfl⟩ | ⟨h0, _⟩
    · exact ⟨by simpa using h.1.symm, rfl⟩
    · cases h0

theorem View.cellsAt {w : World} {b cap : Nat} {ao : Option Addr} {l : List Int} (h : View w b ao cap l) : ∀ ad, ao = some ad → ∀ j u, (cellsOf l)[j]? = some u → w.cell? (ad.add j) = some u := by
  intro ad had j u hu
  rcases h with ⟨h0, _⟩ | ⟨off, h0, h1, h2, h3⟩
  · rw [h0] at had; cases had
  · rw [h0] at had
    obtain rfl := Option.some.inj had
    have hj : j < l.length := by
      have := (List.getElem?_eq_some_iff.1 hu).1
      simpa [cellsOf] using this
    rw [Addr.add_lit, h3 j hj, ← cellsOf_get l j hj]
    exact hu

theorem cellsOf_append (a b : List Int) : cellsOf a ++ cellsOf b = cellsOf (a ++ b) := by simp [cellsOf]

/-- An owned row, its address written out, can be read. -/
theorem View.of_row {w : World} {base g cap n : Nat} {l : List Int} (h : w.ownsRow base 5 1 (.slice (some ⟨g, 0, none⟩) n cap) n (cellsOf l)) : n = l.length ∧ View w g (some ⟨g, 0, none⟩) cap l ∧ g < w.heap.size := by
  obtain ⟨hn, b, _, _, hv, hlt⟩ := View.of_owns h w.heap.size (Nat.le_refl _)
  have hb : b = g := by
    rcases hv with ⟨h, _⟩ | ⟨off, h, _⟩
    · cases h
    · simp at h; omega
  subst hb
  exact ⟨hn, hv, by rcases hlt with h | h; cases h; exact h⟩

end Go.Proofs.Qxb6001749a
