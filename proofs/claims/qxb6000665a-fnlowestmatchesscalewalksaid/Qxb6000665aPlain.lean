/-
  THE PLAIN LAW: the lowest grade by the ratings, and by a walk down the scale. No walk here.
-/
import Derived.Test.Qxb6000665aKit
namespace Go.Proofs.Qxb6000665a

/-- The agency of rating k is not excluded. -/
def Elig (ag ex : List ByteArray) (k : Nat) : Prop := ∀ i, i < ex.length → at_ ex i ≠ at_ ag k

/-- Behind k ratings: none found (-1), or the place p and its grade g. -/
def LowI (sc ag gr ex : List ByteArray) (k : Nat) (g : ByteArray) (P : Int) : Prop :=
  (P = -1 ∧ ∀ j, j < k → Elig ag ex j → ∀ q, ¬ First sc (at_ gr j) q) ∨
  ∃ p : Nat, P = p ∧ First sc g p ∧ (∃ j, j < k ∧ Elig ag ex j ∧ at_ gr j = g) ∧ ∀ j, j < k → Elig ag ex j → ∀ q, First sc (at_ gr j) q → q ≤ p

theorem LowI.start (sc ag gr ex : List ByteArray) (g : ByteArray) : LowI sc ag gr ex 0 g (-1) := .inl ⟨rfl, fun j hj => by omega⟩

theorem LowI.bounds {sc ag gr ex : List ByteArray} {k : Nat} {g : ByteArray} {P : Int} (h : LowI sc ag gr ex k g P) : -1 ≤ P ∧ P ≤ sc.length := by
  rcases h with ⟨rfl, _⟩ | ⟨p, rfl, h, _⟩
  · omega
  · have := h.1; omega

theorem LowI.skip {sc ag gr ex : List ByteArray} {k : Nat} {g : ByteArray} {P : Int} (h : LowI sc ag gr ex k g P) (hk : Elig ag ex k → ∀ q, First sc (at_ gr k) q → (q : Int) ≤ P) : LowI sc ag gr ex (k + 1) g P := by
  rcases h with ⟨rfl, h⟩ | ⟨p, rfl, h1, ⟨j, hj, h2⟩, h3⟩
  · refine .inl ⟨rfl, fun j hj he q hq => ?_⟩
    by_cases hjk : j < k
    · exact h j hjk he q hq
    · obtain rfl : j = k := by omega
      have := hk he q hq
      omega
  · refine .inr ⟨p, rfl, h1, ⟨j, by omega, h2⟩, fun i hi he q hq => ?_⟩
    by_cases hik : i < k
    · exact h3 i hik he q hq
    · obtain rfl : i = k := by omega
      have := hk he q hq
      omega

theorem LowI.take {sc ag gr ex : List ByteArray} {k p : Nat} {g : ByteArray} {P : Int} (h : LowI sc ag gr ex k g P) (hp : First sc (at_ gr k) p) (hlt : P < p) (he : Elig ag ex k) : LowI sc ag gr ex (k + 1) (at_ gr k) p := by
  refine .inr ⟨p, rfl, hp, ⟨k, by omega, he, rfl⟩, fun i hi hei q hq => ?_⟩
  by_cases hik : i < k
  · rcases h with ⟨_, h⟩ | ⟨p', rfl, _, _, h3⟩
    · exact absurd hq (h i hik hei q)
    · have := h3 i hik hei q hq
      omega
  · obtain rfl : i = k := by omega
    have := hq.unique hp
    omega

/-- What Lowest answers. -/
def LowR (sc ag gr ex : List ByteArray) (n : Nat) (g : ByteArray) (P : Int) : Prop :=
  (g = ⟨#[]⟩ ∧ P = sc.length ∧ ∀ j, j < n → Elig ag ex j → ∀ q, ¬ First sc (at_ gr j) q) ∨
  ∃ p : Nat, P = p ∧ First sc g p ∧ (∃ j, j < n ∧ Elig ag ex j ∧ at_ gr j = g) ∧ ∀ j, j < n → Elig ag ex j → ∀ q, First sc (at_ gr j) q → q ≤ p

theorem LowI.none {sc ag gr ex : List ByteArray} {n : Nat} {g : ByteArray} {P : Int} (h : LowI sc ag gr ex n g P) (hP : P < 0) : LowR sc ag gr ex n ⟨#[]⟩ sc.length := by
  rcases h with ⟨_, h⟩ | ⟨p, rfl, _⟩
  · exact .inl ⟨rfl, rfl, h⟩
  · omega

theorem LowI.some {sc ag gr ex : List ByteArray} {n : Nat} {g : ByteArray} {P : Int} (h : LowI sc ag gr ex n g P) (hP : ¬ P < 0) : LowR sc ag gr ex n g P := by
  rcases h with ⟨rfl, _⟩ | h
  · omega
  · exact .inr h

/-- The walk down the scale strikes at j. -/
def Hit (sc ag gr ex : List ByteArray) (n j : Nat) : Prop := (∀ i, i < j → at_ sc i ≠ at_ sc j) ∧ ∃ k, k < n ∧ Elig ag ex k ∧ at_ gr k = at_ sc j

theorem LowR.hit {sc ag gr ex : List ByteArray} {n j : Nat} {g : ByteArray} {P : Int} (h : LowR sc ag gr ex n g P) (hj : j < sc.length) (hh : Hit sc ag gr ex n j) (ha : ∀ i, j < i → i < sc.length → ¬ Hit sc ag gr ex n i) : g = at_ sc j ∧ P = j := by
  obtain ⟨h1, k, hk, he, hg⟩ := hh
  have hf : First sc (at_ gr k) j := by rw [hg]; exact ⟨hj, rfl, h1⟩
  rcases h with ⟨_, _, h⟩ | ⟨p, rfl, hp, ⟨i, hi, hei, hgi⟩, hmax⟩
  · exact absurd hf (h k hk he j)
  · have h2 := hmax k hk he j hf
    have h3 : ¬ j < p := fun hlt => ha p hlt hp.1 ⟨fun i hi => by rw [hp.2.1]; exact hp.2.2 i hi, i, hi, hei, by rw [hgi]; exact hp.2.1.symm⟩
    obtain rfl : p = j := by omega
    exact ⟨hp.2.1.symm, rfl⟩

theorem LowR.miss {sc ag gr ex : List ByteArray} {n : Nat} {g : ByteArray} {P : Int} (h : LowR sc ag gr ex n g P) (ha : ∀ i, i < sc.length → ¬ Hit sc ag gr ex n i) : g = ⟨#[]⟩ ∧ P = sc.length := by
  rcases h with ⟨h1, h2, _⟩ | ⟨p, rfl, hp, ⟨i, hi, hei, hgi⟩, _⟩
  · exact ⟨h1, h2⟩
  · exact absurd ⟨fun i hi => by rw [hp.2.1]; exact hp.2.2 i hi, i, hi, hei, by rw [hgi]; exact hp.2.1.symm⟩ (ha p hp.1)

end Go.Proofs.Qxb6000665a
