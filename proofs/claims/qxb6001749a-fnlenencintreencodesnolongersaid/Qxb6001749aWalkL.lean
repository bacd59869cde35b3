/-
  CONTRACTS: zzb1IsSuffix (21); the plain law of re-encoding what was read.
-/
import Derived.Test.Qxb6001749aWalkH
namespace Go.Proofs.Qxb6001749a
open Go.RowKit
set_option linter.unusedVariables false

theorem suffix_nil (ao bo : Option Addr) (n c d : Nat) (w : World) (hn : n ≤ 9223372036854775807) :
    Calls Try.prog 21 #[.slice ao 0 c, .slice bo n d] w fun e w' => e = .returned (.bool true) ∧ w' = w := by
  go_enter Try.func21, Try.ntmps21
  go_wp2
  refine wp_loop_rounds 1 ?_
  rw [rounds_succ]
  go_wp2
  go_ret
  exact ⟨rfl, rfl⟩

theorem suffix_some (b off b' off' n m c d : Nat) (l : List Int) (w : World) (hn : n ≤ 9223372036854775807) (hm : m ≤ n)
    (cx : Hid (∀ i, i < m → w.cell? ⟨b, off + i, none⟩ = some (.int .u8 (l.getD (n - m + i) 0))))
    (cy : Hid (∀ i, i < n → w.cell? ⟨b', off' + i, none⟩ = some (.int .u8 (l.getD i 0)))) :
    Calls Try.prog 21 #[.slice (some ⟨b, off, none⟩) m c, .slice (some ⟨b', off', none⟩) n d] w fun e w' => e = .returned (.bool true) ∧ ∃ q, w' = w.drewN q := by
  go_enter Try.func21, Try.ntmps21
  go_wp2
  go_loopw [6] (fun i wr => ∃ k : Nat, k ≤ m ∧ i = .int .i64 k ∧ ∃ q, wr = w.drewN q) (fun i _ => m - (intOf i).toNat)
  case atStart => exact ⟨0, Nat.zero_le _, rfl, 0, rfl⟩
  case round =>
    obtain ⟨k, hk, rfl, q, rfl⟩ := hrel
    by_cases hlt : k < m
    · have gx := cx.out k hlt
      have gy := cy.out (n - m + k) (by omega)
      generalize l.getD (n - m + k) 0 = x at gx gy
      go_wp2
      go_region
      all_goals go_wp2
      go_roundw
      case rel => exact ⟨k + 1, by omega, by go_num, _, rfl⟩
      case measure => simp [intOf]; omega
    · go_wp2
      go_ret
      exact ⟨rfl, _, rfl⟩

/-- What is left behind u bytes is a suffix. -/
theorem suffix_any {w : World} {b b' n c d u : Nat} {ao bo : Option Addr} {l : List Int} (hx : View w b ao c (l.drop u)) (hy : View w b' bo d l) (hn : l.length = n) (hu : u ≤ n) :
    Calls Try.prog 21 #[.slice ao (n - u) c, .slice bo n d] w fun e w' => e = .returned (.bool true) ∧ ∃ q, w' = w.drewN q := by
  have hs := hy.small
  by_cases h0 : n - u = 0
  · rw [h0]
    refine (suffix_nil ao bo n c d w (by omega)).mono ?_
    rintro e w' ⟨rfl, rfl⟩
    exact ⟨rfl, 0, rfl⟩
  · have hdl : (l.drop u).length = n - u := by simp [hn]
    rcases hx with ⟨_, _, h⟩ | ⟨off, rfl, _, _, cx⟩
    · rw [h] at hdl; simp at hdl; omega
    rcases hy with ⟨_, _, h⟩ | ⟨off', rfl, _, _, cy⟩
    · rw [h] at hn; simp at hn; omega
    refine suffix_some b off b' off' n (n - u) c d l w (by omega) (by omega) ?_ ?_
    · intro i hi
      rw [cx i (by omega)]
      have e : n - (n - u) + i = u + i := by omega
      rw [e]
      simp [List.getD]
    · rw [← hn]
      exact cy

theorem getD_cons (x : Int) (r : List Int) : (x :: r).getD 0 0 = x := rfl

set_option maxHeartbeats 2000000 in
theorem re_enc (l : List Int) (hby : ∀ x ∈ l, 0 ≤ x ∧ x ≤ 255) (hl : need l ≤ l.length) (h1 : l.getD 0 0 ≠ 251) (h2 : l.getD 0 0 ≠ 255) :
    0 ≤ val l ∧ val l < 18446744073709551616 ∧ (enc (val l)).length ≤ need l ∧ ((enc (val l)).length = need l → enc (val l) = l.take (need l)) := by
  rcases need_cases l with ⟨e, hn⟩ | ⟨e, hn⟩ | ⟨e, hn⟩ | ⟨k1, k2, k3, hn⟩
  · unfold val
    rw [hn] at hl ⊢
    rw [if_neg (by omega)]
    match l, hl, e, hby with
    | a0 :: a1 :: a2 :: r, _, e, hby =>
      rw [getD_cons] at e
      subst e
      have b1 := hby a1 (by simp)
      have b2 := hby a2 (by simp)
      have hv : le (List.take (3 - 1) (List.drop 1 (252 :: a1 :: a2 :: r))) = a1 + 256 * a2 := by simp [le]
      rw [hv]
      rcases enc_cases (a1 + 256 * a2) with ⟨_, f⟩ | ⟨_, _, f⟩ | ⟨_, _, f⟩ | ⟨_, f⟩ <;> rw [f]
      · exact ⟨by omega, by omega, by simp, by simp⟩
      · refine ⟨by omega, by omega, by simp, fun _ => ?_⟩
        have e1 : (a1 + 256 * a2) % 256 = a1 := by omega
        have e2 : (a1 + 256 * a2) / 256 = a2 := by omega
        rw [e1, e2]
        rfl
      · omega
      · omega
  · unfold val
    rw [hn] at hl ⊢
    rw [if_neg (by omega)]
    match l, hl, e, hby with
    | a0 :: a1 :: a2 :: a3 :: r, _, e, hby =>
      rw [getD_cons] at e
      subst e
      have b1 := hby a1 (by simp)
      have b2 := hby a2 (by simp)
      have b3 := hby a3 (by simp)
      have hv : le (List.take (4 - 1) (List.drop 1 (253 :: a1 :: a2 :: a3 :: r))) = a1 + 256 * (a2 + 256 * a3) := by simp [le]
      rw [hv]
      rcases enc_cases (a1 + 256 * (a2 + 256 * a3)) with ⟨_, f⟩ | ⟨_, _, f⟩ | ⟨_, _, f⟩ | ⟨_, f⟩ <;> rw [f]
      · exact ⟨by omega, by omega, by simp, by simp⟩
      · exact ⟨by omega, by omega, by simp, by simp⟩
      · refine ⟨by omega, by omega, by simp, fun _ => ?_⟩
        have e1 : (a1 + 256 * (a2 + 256 * a3)) % 256 = a1 := by omega
        have e2 : (a1 + 256 * (a2 + 256 * a3)) / 256 % 256 = a2 := by omega
        have e3 : (a1 + 256 * (a2 + 256 * a3)) / 65536 = a3 := by omega
        rw [e1, e2, e3]
        rfl
      · omega
  · unfold val
    rw [hn] at hl ⊢
    rw [if_neg (by omega)]
    match l, hl, e, hby with
    | a0 :: a1 :: a2 :: a3 :: a4 :: a5 :: a6 :: a7 :: a8 :: r, _, e, hby =>
      rw [getD_cons] at e
      subst e
      have b1 := hby a1 (by simp)
      have b2 := hby a2 (by simp)
      have b3 := hby a3 (by simp)
      have b4 := hby a4 (by simp)
      have b5 := hby a5 (by simp)
      have b6 := hby a6 (by simp)
      have b7 := hby a7 (by simp)
      have b8 := hby a8 (by simp)
      have hv : le (List.take (9 - 1) (List.drop 1 (254 :: a1 :: a2 :: a3 :: a4 :: a5 :: a6 :: a7 :: a8 :: r))) = a1 + 256 * (a2 + 256 * (a3 + 256 * (a4 + 256 * (a5 + 256 * (a6 + 256 * (a7 + 256 * a8)))))) := by simp [le]
      rw [hv]
      rcases enc_cases (a1 + 256 * (a2 + 256 * (a3 + 256 * (a4 + 256 * (a5 + 256 * (a6 + 256 * (a7 + 256 * a8))))))) with ⟨_, f⟩ | ⟨_, _, f⟩ | ⟨_, _, f⟩ | ⟨_, f⟩ <;> rw [f]
      · exact ⟨by omega, by omega, by simp, by simp⟩
      · exact ⟨by omega, by omega, by simp, by simp⟩
      · exact ⟨by omega, by omega, by simp, by simp⟩
      · refine ⟨by omega, by omega, by simp, fun _ => ?_⟩
        have e1 : (a1 + 256 * (a2 + 256 * (a3 + 256 * (a4 + 256 * (a5 + 256 * (a6 + 256 * (a7 + 256 * a8))))))) % 256 = a1 := by omega
        have e2 : (a1 + 256 * (a2 + 256 * (a3 + 256 * (a4 + 256 * (a5 + 256 * (a6 + 256 * (a7 + 256 * a8))))))) / 256 % 256 = a2 := by omega
        have e3 : (a1 + 256 * (a2 + 256 * (a3 + 256 * (a4 + 256 * (a5 + 256 * (a6 + 256 * (a7 + 256 * a8))))))) / 65536 % 256 = a3 := by omega
        have e4 : (a1 + 256 * (a2 + 256 * (a3 + 256 * (a4 + 256 * (a5 + 256 * (a6 + 256 * (a7 + 256 * a8))))))) / 16777216 % 256 = a4 := by omega
        have e5 : (a1 + 256 * (a2 + 256 * (a3 + 256 * (a4 + 256 * (a5 + 256 * (a6 + 256 * (a7 + 256 * a8))))))) / 4294967296 % 256 = a5 := by omega
        have e6 : (a1 + 256 * (a2 + 256 * (a3 + 256 * (a4 + 256 * (a5 + 256 * (a6 + 256 * (a7 + 256 * a8))))))) / 1099511627776 % 256 = a6 := by omega
        have e7 : (a1 + 256 * (a2 + 256 * (a3 + 256 * (a4 + 256 * (a5 + 256 * (a6 + 256 * (a7 + 256 * a8))))))) / 281474976710656 % 256 = a7 := by omega
        have e8 : (a1 + 256 * (a2 + 256 * (a3 + 256 * (a4 + 256 * (a5 + 256 * (a6 + 256 * (a7 + 256 * a8))))))) / 72057594037927936 = a8 := by omega
        rw [e1, e2, e3, e4, e5, e6, e7, e8]
        rfl
  · unfold val
    rw [hn] at hl ⊢
    rw [if_pos rfl]
    match l, hl, h1, h2, k1, k2, k3, hby with
    | a0 :: r, _, h1, h2, k1, k2, k3, hby =>
      rw [getD_cons] at h1 h2 k1 k2 k3
      rw [getD_cons]
      have b0 := hby a0 (by simp)
      rcases enc_cases a0 with ⟨_, f⟩ | ⟨_, _, f⟩ | ⟨_, _, f⟩ | ⟨_, f⟩ <;> rw [f]
      · exact ⟨by omega, by omega, by simp, fun _ => rfl⟩
      all_goals omega

end Go.Proofs.Qxb6001749a
