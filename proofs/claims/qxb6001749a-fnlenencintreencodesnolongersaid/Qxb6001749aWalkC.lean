/-
  CONTRACTS, THIRD PART: appendLenEncInt (29), ZZAppendLenEncInt (13): the code of a number.
-/
import Derived.Test.Qxb6001749aWalkB
namespace Go.Proofs.Qxb6001749a
open Go.RowKit
set_option linter.unusedVariables false

/-- The code of a number, byte by byte. -/
def enc (x : Int) : List Int :=
  if x < 251 then [x]
  else if x < 65536 then [252, x % 256, x / 256]
  else if x < 16777216 then [253, x % 256, x / 256 % 256, x / 65536]
  else [254, x % 256, x / 256 % 256, x / 65536 % 256, x / 16777216 % 256, x / 4294967296 % 256, x / 1099511627776 % 256, x / 281474976710656 % 256, x / 72057594037927936]

theorem cells_new (w : World) (c : Array Value) (t : TypeId) : ∀ j u, c.toList[j]? = some u → (w.alloc (.cells c t)).cell? ((⟨w.heap.size, 0, none⟩ : Addr).add j) = some u := by
  intro j u hj
  rw [Addr.add_lit, Nat.zero_add, World.cell?_alloc_new]
  simpa using hj

theorem gb_first {w w1 : World} {o : Obj} {row : Option Nat} (h : (w.alloc o).grownBy w1 row) : w.grownBy w1 row :=
  ⟨h.os, h.tape, h.output, by have := h.size; simp at this; omega, fun k hk hne => (h.block k (by simp; omega) hne).trans (Below.heap_alloc w o k hk)⟩

/-- What is owned is a slice's value. -/
theorem owns_slice {w : World} {base n : Nat} {v : Value} {xs : List Value} (h : w.ownsRow base 5 1 v n xs) : ∃ (ao : Option Addr) (cap : Nat), v = .slice ao n cap := by
  rcases h.2 with ⟨rfl, rfl⟩ | ⟨g, cap, cur, rfl, _⟩
  · exact ⟨none, 0, rfl⟩
  · exact ⟨_, cap, rfl⟩

theorem append_1 (ao : Option Addr) (n cap base : Nat) (l : List Int) (x : Int) (w : World) (h : w.ownsRow base 5 1 (.slice ao n cap) n (cellsOf l)) (hb : base ≤ w.heap.size) (hn : n ≤ 2097152) (h0 : 0 ≤ x) (h1 : x < 251) :
    Calls Try.prog 29 #[.slice ao n cap, .int .u64 x] w fun e w' => ∃ v, e = .returned v ∧ w'.ownsRow base 5 1 v (n + 1) (cellsOf (l ++ [x])) ∧ w.grownBy w' (Value.slice ao n cap).ownBlock := by
  obtain ⟨i0, hi, hz0, hz1, hz2⟩ := info_parts Try.info5
  go_enter Try.func29, Try.ntmps29
  go_wp2_with (at_builtin; refine wpList_append_own _ rfl _ _ 22 rfl base 5 i0 (.int .u8 0) 1 1 Try.underlying22 hi hz0 hz1 hz2 rfl (by decide) _ _ _ rfl (h.alloc _) ⟨w.heap.size, 0, none⟩ 1 1 [.int .u8 x] rfl rfl ?c1 ?c2 ?c3 ?c4 ?c5 ?_)
  case c1 => intro j u hj; exact cells_new _ _ _ j u hj
  case c2 => exact ints_oneCell .u8 [x]
  case c3 => unfold maxLen; omega
  case c4 => omega
  case c5 => simp; omega
  intro v w1 hown hgrow _
  go_wp2
  go_ret
  refine ⟨v, rfl, ?_, gb_first hgrow⟩
  simpa [cellsOf] using hown

theorem append_3 (ao : Option Addr) (n cap base : Nat) (l : List Int) (x : Int) (w : World) (h : w.ownsRow base 5 1 (.slice ao n cap) n (cellsOf l)) (hb : base ≤ w.heap.size) (hn : n ≤ 2097152) (h0 : 251 ≤ x) (h1 : x < 65536) :
    Calls Try.prog 29 #[.slice ao n cap, .int .u64 x] w fun e w' => ∃ v, e = .returned v ∧ w'.ownsRow base 5 1 v (n + 3) (cellsOf (l ++ [252, x % 256, x / 256])) ∧ w.grownBy w' (Value.slice ao n cap).ownBlock := by
  obtain ⟨i0, hi, hz0, hz1, hz2⟩ := info_parts Try.info5
  go_enter Try.func29, Try.ntmps29
  go_wp2_with (at_builtin; refine wpList_append_own _ rfl _ _ 22 rfl base 5 i0 (.int .u8 0) 1 1 Try.underlying22 hi hz0 hz1 hz2 rfl (by decide) _ _ _ rfl (h.alloc _) ⟨w.heap.size, 0, none⟩ 3 3 [.int .u8 252, .int .u8 (x % 256), .int .u8 (x / 256)] rfl rfl ?c1 ?c2 ?c3 ?c4 ?c5 ?_)
  case c1 => intro j u hj; exact cells_new _ _ _ j u hj
  case c2 => exact ints_oneCell .u8 [252, x % 256, x / 256]
  case c3 => unfold maxLen; omega
  case c4 => omega
  case c5 => simp; omega
  intro v w1 hown hgrow _
  go_wp2
  go_ret
  refine ⟨v, rfl, ?_, gb_first hgrow⟩
  simpa [cellsOf] using hown

theorem append_4 (ao : Option Addr) (n cap base : Nat) (l : List Int) (x : Int) (w : World) (h : w.ownsRow base 5 1 (.slice ao n cap) n (cellsOf l)) (hb : base ≤ w.heap.size) (hn : n ≤ 2097152) (h0 : 65536 ≤ x) (h1 : x < 16777216) :
    Calls Try.prog 29 #[.slice ao n cap, .int .u64 x] w fun e w' => ∃ v, e = .returned v ∧ w'.ownsRow base 5 1 v (n + 4) (cellsOf (l ++ [253, x % 256, x / 256 % 256, x / 65536])) ∧ w.grownBy w' (Value.slice ao n cap).ownBlock := by
  obtain ⟨i0, hi, hz0, hz1, hz2⟩ := info_parts Try.info5
  go_enter Try.func29, Try.ntmps29
  go_wp2_with (at_builtin; refine wpList_append_own _ rfl _ _ 22 rfl base 5 i0 (.int .u8 0) 1 1 Try.underlying22 hi hz0 hz1 hz2 rfl (by decide) _ _ _ rfl (h.alloc _) ⟨w.heap.size, 0, none⟩ 4 4 [.int .u8 253, .int .u8 (x % 256), .int .u8 (x / 256 % 256), .int .u8 (x / 65536)] rfl rfl ?c1 ?c2 ?c3 ?c4 ?c5 ?_)
  case c1 => intro j u hj; exact cells_new _ _ _ j u hj
  case c2 => exact ints_oneCell .u8 [253, x % 256, x / 256 % 256, x / 65536]
  case c3 => unfold maxLen; omega
  case c4 => omega
  case c5 => simp; omega
  intro v w1 hown hgrow _
  go_wp2
  go_ret
  refine ⟨v, rfl, ?_, gb_first hgrow⟩
  simpa [cellsOf] using hown

theorem append_9 (ao : Option Addr) (n cap base : Nat) (l : List Int) (x : Int) (w : World) (h : w.ownsRow base 5 1 (.slice ao n cap) n (cellsOf l)) (hb : base ≤ w.heap.size) (hn : n ≤ 2097152) (h0 : 16777216 ≤ x) (h1 : x < 18446744073709551616) :
    Calls Try.prog 29 #[.slice ao n cap, .int .u64 x] w fun e w' => ∃ v, e = .returned v ∧ w'.ownsRow base 5 1 v (n + 9) (cellsOf (l ++ [254, x % 256, x / 256 % 256, x / 65536 % 256, x / 16777216 % 256, x / 4294967296 % 256, x / 1099511627776 % 256, x / 281474976710656 % 256, x / 72057594037927936])) ∧ w.grownBy w' (Value.slice ao n cap).ownBlock := by
  obtain ⟨i0, hi, hz0, hz1, hz2⟩ := info_parts Try.info5
  go_enter Try.func29, Try.ntmps29
  go_wp2_with (at_builtin; refine wpList_append_own _ rfl _ _ 22 rfl base 5 i0 (.int .u8 0) 1 1 Try.underlying22 hi hz0 hz1 hz2 rfl (by decide) _ _ _ rfl (h.alloc _) ⟨w.heap.size, 0, none⟩ 9 9 [.int .u8 254, .int .u8 (x % 256), .int .u8 (x / 256 % 256), .int .u8 (x / 65536 % 256), .int .u8 (x / 16777216 % 256), .int .u8 (x / 4294967296 % 256), .int .u8 (x / 1099511627776 % 256), .int .u8 (x / 281474976710656 % 256), .int .u8 (x / 72057594037927936)] rfl rfl ?c1 ?c2 ?c3 ?c4 ?c5 ?_)
  case c1 => intro j u hj; exact cells_new _ _ _ j u hj
  case c2 => exact ints_oneCell .u8 [254, x % 256, x / 256 % 256, x / 65536 % 256, x / 16777216 % 256, x / 4294967296 % 256, x / 1099511627776 % 256, x / 281474976710656 % 256, x / 72057594037927936]
  case c3 => unfold maxLen; omega
  case c4 => omega
  case c5 => simp; omega
  intro v w1 hown hgrow _
  go_wp2
  go_ret
  refine ⟨v, rfl, ?_, gb_first hgrow⟩
  simpa [cellsOf] using hown

/-- The code is appended, whatever the number. -/
theorem append_any {w : World} {ao : Option Addr} {n cap base : Nat} {l : List Int} (x : Int) (h : w.ownsRow base 5 1 (.slice ao n cap) n (cellsOf l)) (hb : base ≤ w.heap.size) (hn : n ≤ 2097152) (h0 : 0 ≤ x) (h1 : x < 18446744073709551616) :
    Calls Try.prog 29 #[.slice ao n cap, .int .u64 x] w fun e w' => ∃ (ao' : Option Addr) (cap' : Nat), e = .returned (.slice ao' (n + (enc x).length) cap') ∧
      w'.ownsRow base 5 1 (.slice ao' (n + (enc x).length) cap') (n + (enc x).length) (cellsOf (l ++ enc x)) ∧ w.grownBy w' (Value.slice ao n cap).ownBlock := by
  have fin : ∀ (k : Nat) (c : List Int) (e : Ending) (w' : World), enc x = c → c.length = k → (∃ v, e = .returned v ∧ w'.ownsRow base 5 1 v (n + k) (cellsOf (l ++ c)) ∧ w.grownBy w' (Value.slice ao n cap).ownBlock) →
      ∃ (ao' : Option Addr) (cap' : Nat), e = .returned (.slice ao' (n + (enc x).length) cap') ∧
      w'.ownsRow base 5 1 (.slice ao' (n + (enc x).length) cap') (n + (enc x).length) (cellsOf (l ++ enc x)) ∧ w.grownBy w' (Value.slice ao n cap).ownBlock := by
    rintro k c e w' hc hk ⟨v, rfl, hown, hg⟩
    rw [hc, hk]
    obtain ⟨ao', cap', rfl⟩ := owns_slice hown
    exact ⟨ao', cap', rfl, hown, hg⟩
  by_cases a1 : x < 251
  · exact (append_1 ao n cap base l x w h hb hn h0 a1).mono fun e w' hp => fin 1 _ e w' (by simp [enc, a1]) rfl hp
  · by_cases a2 : x < 65536
    · exact (append_3 ao n cap base l x w h hb hn (by omega) a2).mono fun e w' hp => fin 3 _ e w' (by simp [enc, a1, a2]) rfl hp
    · by_cases a3 : x < 16777216
      · exact (append_4 ao n cap base l x w h hb hn (by omega) a3).mono fun e w' hp => fin 4 _ e w' (by simp [enc, a1, a2, a3]) rfl hp
      · exact (append_9 ao n cap base l x w h hb hn (by omega) h1).mono fun e w' hp => fin 9 _ e w' (by simp [enc, a1, a2, a3]) rfl hp

/-- .. and through the shim. -/
theorem zzappend_any {w : World} {ao : Option Addr} {n cap base : Nat} {l : List Int} (x : Int) (h : w.ownsRow base 5 1 (.slice ao n cap) n (cellsOf l)) (hb : base ≤ w.heap.size) (hn : n ≤ 2097152) (h0 : 0 ≤ x) (h1 : x < 18446744073709551616) :
    Calls Try.prog 13 #[.slice ao n cap, .int .u64 x] w fun e w' => ∃ (ao' : Option Addr) (cap' : Nat), e = .returned (.slice ao' (n + (enc x).length) cap') ∧
      w'.ownsRow base 5 1 (.slice ao' (n + (enc x).length) cap') (n + (enc x).length) (cellsOf (l ++ enc x)) ∧ w.grownBy w' (Value.slice ao n cap).ownBlock := by
  go_enter Try.func13, Try.ntmps13
  go_wp2_with (go_at_call 29; refine (append_any x h hb hn h0 h1).mono ?_; rintro e w' ⟨ao', cap', rfl, hp, hg⟩)
  go_ret
  exact ⟨ao', cap', rfl, hp, hg⟩

end Go.Proofs.Qxb6001749a
