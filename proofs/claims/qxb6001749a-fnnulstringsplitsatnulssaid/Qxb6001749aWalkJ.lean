/-
  ZZNulString in one form: a piece is cut off the front.
-/
import Derived.Test.Qxb6001749aWalkI
import Derived.Test.Qxb6001749aPlainNul
namespace Go.Proofs.Qxb6001749a
open Go.RowKit
set_option linter.unusedVariables false

theorem str_bo (q : List Int) (h : ∀ x ∈ q, 0 ≤ x ∧ x ≤ 255) : bo (strOfNums q) = q := by
  unfold bo
  rw [strOfNums_data, List.map_map]
  rw [List.map_congr_left (g := id)]
  · simp
  · intro x hx
    have hb := h x hx
    simp
    omega

theorem getD_mem (l : List Int) (i : Nat) (h : i < l.length) : l.getD i 0 ∈ l := by
  have : l.getD i 0 = l[i] := by simp [List.getD, h]
  rw [this]
  exact List.getElem_mem _

theorem zznul_any {w : World} {R b n cap : Nat} {ao : Option Addr} {bad : Bool} {l : List Int} (h : Reader w R ao n cap bad) (hv : View w b ao cap l) (hl : l.length = n) (hb : b ≠ R) (hby : ∀ x ∈ l, 0 ≤ x ∧ x ≤ 255) :
    Calls Try.prog 26 #[.pointer (some ⟨R, 0, none⟩)] w fun e w' => ∃ (str : ByteArray) (a3 : Option Addr) (m3 cap3 : Nat) (B' : List Int), e = .returned (.string str) ∧ Reader w' R a3 m3 cap3 bad ∧ View w' b a3 cap3 B' ∧ B'.length = m3 ∧ Cut l (bo str) B' ∧ w.grownBy w' (some R) := by
  rcases first_zero l with hz | ⟨p, h1, h2, h3⟩
  · refine (zznul_none h hv hl (fun i hi => ?_)).mono ?_
    · have := hz _ (getD_mem l i (by omega))
      exact beq_eq_false_iff_ne.2 (Ne.symm this)
    · rintro e w' ⟨rfl, r, g⟩
      refine ⟨strOfNums l, none, 0, 0, [], rfl, r, View.nil _ _, rfl, ?_, g⟩
      rw [str_bo l hby]
      exact ⟨hz, .inr ⟨rfl, rfl⟩⟩
  · refine (zznul_some h hv hl hb p (by omega) (fun i hi => ?_) h2).mono ?_
    · have := h3 i hi
      exact beq_eq_false_iff_ne.2 (Ne.symm this)
    · rintro e w' ⟨rfl, a2, r, v, g⟩
      refine ⟨strOfNums (l.take p), a2, _, _, l.drop (p + 1), rfl, r, v, by simp [hl], ?_, g⟩
      rw [str_bo (l.take p) (fun x hx => hby x (List.mem_of_mem_take hx))]
      refine ⟨fun x hx => ?_, .inl ?_⟩
      · obtain ⟨i, hi, rfl⟩ := List.getElem_of_mem hx
        have hi' : i < p := by simp at hi; omega
        have := h3 i hi'
        have e : (l.take p)[i] = l.getD i 0 := by simp [List.getD, show i < l.length by omega]
        rw [e]
        exact this
      · have e : l.getD p 0 = l[p] := by simp [List.getD, h1]
        rw [e] at h2
        rw [← h2, List.getElem_cons_drop, List.take_append_drop]

end Go.Proofs.Qxb6001749a
