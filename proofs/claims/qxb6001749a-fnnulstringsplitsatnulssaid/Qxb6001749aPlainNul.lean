/-
  THE PLAIN LAW OF CUTTING AT NULs: no walk here.
-/
import Derived.WalkKit
namespace Go.Proofs.Qxb6001749a

/-- How many zeros. -/
def zc (l : List Int) : Nat := l.countP (· == 0)

theorem zc_append (a b : List Int) : zc (a ++ b) = zc a + zc b := by simp [zc]
theorem zc_one : zc [0] = 1 := by simp [zc]
theorem zc_free (q : List Int) (h : ∀ x ∈ q, x ≠ 0) : zc q = 0 := by
  unfold zc
  rw [List.countP_eq_zero]
  intro x hx
  simpa using h x hx

/-- One piece off the front: q, and B' is left. -/
def Cut (B q B' : List Int) : Prop := (∀ x ∈ q, x ≠ 0) ∧ ((B = q ++ 0 :: B') ∨ (B = q ∧ B' = []))

/-- Behind P pieces: A is consumed, B is left, J is what was joined. -/
def St (l A B : List Int) (P : Nat) (J : List Int) : Prop :=
  l = A ++ B ∧ P ≤ A.length ∧
  ((P = 0 ∧ A = [] ∧ J = []) ∨ (0 < P ∧ A = J ++ [0] ∧ zc A = P) ∨ (0 < P ∧ B = [] ∧ J = A ∧ zc A + 1 = P ∧ ∃ (a : List Int) (x : Int), A = a ++ [x] ∧ x ≠ 0))

theorem St.start (l : List Int) : St l [] l 0 [] := ⟨by simp, by simp, .inl ⟨rfl, rfl, rfl⟩⟩

theorem St.zero {l A B J : List Int} (h : St l A B 0 J) : A = [] ∧ J = [] := by
  rcases h.2.2 with ⟨_, h1, h2⟩ | ⟨h1, _⟩ | ⟨h1, _⟩
  · exact ⟨h1, h2⟩
  · omega
  · omega

theorem St.more {l A B J : List Int} {P : Nat} (h : St l A B P J) (hP : 0 < P) (hB : B ≠ []) : A = J ++ [0] := by
  rcases h.2.2 with ⟨h1, _⟩ | ⟨_, h2, _⟩ | ⟨_, h2, _⟩
  · omega
  · exact h2
  · exact absurd h2 hB

theorem St.count {l A B J : List Int} {P : Nat} (h : St l A B P J) (hB : B ≠ []) : zc A = P := by
  rcases h.2.2 with ⟨h1, h2, _⟩ | ⟨_, _, h2⟩ | ⟨_, h2, _⟩
  · rw [h2, h1]; rfl
  · exact h2
  · exact absurd h2 hB

theorem last_of (q : List Int) (hq : q ≠ []) : ∃ (a : List Int) (x : Int), q = a ++ [x] :=
  ⟨q.dropLast, q.getLast hq, (List.dropLast_concat_getLast hq).symm⟩

theorem St.step {l A B J q B' : List Int} {P : Nat} (h : St l A B P J) (hB : B ≠ []) (hc : Cut B q B') : ∃ A', St l A' B' (P + 1) (A ++ q) ∧ A'.length + B'.length = l.length := by
  have hz := h.count hB
  obtain ⟨h1, h2, _⟩ := h
  obtain ⟨hq, hB' | ⟨rfl, rfl⟩⟩ := hc
  · subst hB'
    refine ⟨A ++ q ++ [0], ⟨by rw [h1]; simp, by simp; omega, .inr (.inl ⟨by omega, rfl, ?_⟩)⟩, by rw [h1]; simp; omega⟩
    rw [zc_append, zc_append, zc_one, zc_free q hq, hz]
  · refine ⟨A ++ B, ⟨by rw [h1]; simp, ?_, .inr (.inr ⟨by omega, rfl, rfl, ?_, ?_⟩)⟩, by rw [h1]; simp⟩
    · have : 0 < B.length := List.length_pos_iff.2 hB
      simp; omega
    · rw [zc_append, zc_free B hq, hz]
    · obtain ⟨a, x, hx⟩ := last_of B hB
      exact ⟨A ++ a, x, by rw [hx]; simp, hq x (by rw [hx]; simp)⟩

theorem Cut.len {B q B' : List Int} (h : Cut B q B') (hB : B ≠ []) : q.length ≤ B.length ∧ B'.length < B.length ∧ q.length + B'.length ≤ B.length := by
  obtain ⟨_, rfl | ⟨rfl, rfl⟩⟩ := h
  · simp; omega
  · have : 0 < B.length := List.length_pos_iff.2 hB
    simp; omega

/-- All is read: the pieces are the zeros, plus one for an unterminated last piece; and the joined bytes. -/
theorem St.done_zero {l A J : List Int} {P : Nat} {a : List Int} (h : St l A [] P J) (hl : l = a ++ [0]) : P = zc l ∧ J ++ [0] = l := by
  obtain ⟨h1, h2, h3⟩ := h
  rw [List.append_nil] at h1
  subst h1
  rcases h3 with ⟨_, h4, _⟩ | ⟨_, h4, h5⟩ | ⟨_, _, _, _, b, x, h5, h6⟩
  · rw [hl] at h4; simp at h4
  · exact ⟨h5.symm, h4.symm⟩
  · rw [hl] at h5
    have := List.append_inj_right' h5 rfl
    simp at this
    exact absurd this.symm h6

theorem St.done_more {l A J : List Int} {P : Nat} {a : List Int} {x : Int} (h : St l A [] P J) (hl : l = a ++ [x]) (hx : x ≠ 0) : P = zc l + 1 ∧ J = l := by
  obtain ⟨h1, h2, h3⟩ := h
  rw [List.append_nil] at h1
  subst h1
  rcases h3 with ⟨_, h4, _⟩ | ⟨_, h4, h5⟩ | ⟨_, _, h4, h5, _⟩
  · rw [hl] at h4; simp at h4
  · rw [hl] at h4
    have := List.append_inj_right' h4 rfl
    simp at this
    exact absurd this hx
  · exact ⟨h5.symm, h4⟩

theorem zc_take_succ (l : List Int) (k : Nat) (h : k < l.length) : zc (l.take (k + 1)) = zc (l.take k) + if l[k] = 0 then 1 else 0 := by
  rw [List.take_succ_eq_append_getElem h, zc_append]
  congr 1
  simp [zc, List.countP_cons]

theorem zc_le (l : List Int) : zc l ≤ l.length := List.countP_le_length

/-- The first zero, if there is one. -/
theorem first_zero (l : List Int) : (∀ x ∈ l, x ≠ 0) ∨ ∃ p, p < l.length ∧ l.getD p 0 = 0 ∧ ∀ i, i < p → l.getD i 0 ≠ 0 := by
  induction l with
  | nil => exact .inl (by simp)
  | cons x r ih =>
    by_cases hx : x = 0
    · exact .inr ⟨0, by simp, by simp [hx], fun i hi => by omega⟩
    · rcases ih with h | ⟨p, h1, h2, h3⟩
      · exact .inl (by intro y hy; simp at hy; rcases hy with rfl | hy; exact hx; exact h y hy)
      · refine .inr ⟨p + 1, by simp; omega, by simpa using h2, fun i hi => ?_⟩
        cases i with
        | zero => simpa using hx
        | succ i => simpa using h3 i (by omega)

end Go.Proofs.Qxb6001749a
