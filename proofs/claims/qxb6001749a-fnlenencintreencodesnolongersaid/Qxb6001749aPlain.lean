/-
  THE PLAIN LAW OF A LITTLE-ENDIAN NUMBER: no walk here.
-/
import Derived.WalkKit
import Derived.Laws.BitsAllLaws
namespace Go.Proofs.Qxb6001749a
open Go.RowKit

/-- The number that bytes spell, the lowest first. -/
def le : List Int → Int
  | [] => 0
  | x :: r => x + 256 * le r

theorem le_bound (f : List Int) (h : ∀ x ∈ f, 0 ≤ x ∧ x ≤ 255) : 0 ≤ le f ∧ le f < 256 ^ f.length := by
  induction f with
  | nil => simp [le]
  | cons x r ih =>
    have h1 := h x (by simp)
    have h2 := ih (fun y hy => h y (by simp [hy]))
    simp only [le, List.length_cons, Int.pow_succ]
    omega

theorem le_take_succ (f : List Int) (k : Nat) (h : k < f.length) : le (f.take (k + 1)) = le (f.take k) + f[k] * 256 ^ k := by
  induction f generalizing k with
  | nil => simp at h
  | cons x r ih =>
    cases k with
    | zero => simp [le]
    | succ k =>
      have h' : k < r.length := by simpa using h
      have := ih k h'
      simp only [List.take_succ_cons, le, List.getElem_cons_succ, Int.pow_succ] at this ⊢
      rw [this, Int.mul_add]
      have e : r[k] * (256 ^ k * 256) = 256 * (r[k] * 256 ^ k) := by
        rw [Int.mul_comm (256 ^ k) 256, ← Int.mul_assoc, Int.mul_comm r[k] 256, Int.mul_assoc]
      rw [e]
      omega

theorem or_nat (a c k : Nat) (hk : k < 8) (ha : a < 2 ^ (8 * k)) (hc : c ≤ 255) : bits .or .u64 (a : Int) (IntKind.u64.wrap ((c : Int) * 2 ^ (8 * k))) = ((a + c * 2 ^ (8 * k) : Nat) : Int) := by
  have hp : 2 ^ (8 * k) ≤ 2 ^ 56 := Nat.pow_le_pow_right (by omega) (by omega)
  have hm : c * 2 ^ (8 * k) ≤ 255 * 2 ^ 56 := Nat.mul_le_mul hc hp
  have e1 : (c : Int) * 2 ^ (8 * k) = ((c * 2 ^ (8 * k) : Nat) : Int) := by simp
  have e2 : IntKind.u64.wrap ((c * 2 ^ (8 * k) : Nat) : Int) = ((c * 2 ^ (8 * k) : Nat) : Int) := by
    generalize c * 2 ^ (8 * k) = m at hm
    simp only [IntKind.wrap, IntKind.bits, IntKind.signed, Bool.false_and]
    simp
    omega
  rw [e1, e2, u64_or_nat a _ (by omega) (by omega)]
  congr 1
  have := Nat.two_pow_add_eq_or_of_lt ha c
  rw [Nat.or_comm, Nat.mul_comm c, ← this]
  omega

theorem or_step (a c : Int) (k : Nat) (hk : k < 8) (h0 : 0 ≤ a) (h1 : a < 256 ^ k) (c0 : 0 ≤ c) (c1 : c ≤ 255) : bits .or .u64 a (IntKind.u64.wrap (c * 2 ^ (8 * k))) = a + c * 256 ^ k := by
  obtain ⟨A, rfl⟩ := Int.eq_ofNat_of_zero_le h0
  obtain ⟨C, rfl⟩ := Int.eq_ofNat_of_zero_le c0
  have e : (2 ^ (8 * k) : Nat) = 256 ^ k := by rw [Nat.pow_mul]
  have hA : A < 2 ^ (8 * k) := by
    rw [e]
    have h2 : ((A : Nat) : Int) < ((256 ^ k : Nat) : Int) := by rw [Int.natCast_pow]; exact h1
    exact Int.ofNat_lt.1 h2
  have := or_nat A C k hk hA (by omega)
  rw [this, e, Int.natCast_add, Int.natCast_mul, Int.natCast_pow]
  rfl

end Go.Proofs.Qxb6001749a
