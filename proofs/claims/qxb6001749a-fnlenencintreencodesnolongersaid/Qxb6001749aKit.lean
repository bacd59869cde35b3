/-
  THE SEAT's OWN WORDS: what a slice of bytes shows in a world; a payload reader in memory; what stays where one block is written. No walk here.
-/
import Derived.Test.Qxb6001749aProg
import Derived.WalkKit
import Derived.WalkSpells
import Derived.RegionTactic
import Derived.WalkSmall
namespace Go.Proofs.Qxb6001749a
open Go.RowKit

theorem ret_bool {a b : Bool} (h : a = b) : Ending.returned (.bool a) = .returned (.bool b) := by rw [h]
theorem ret_int {k : IntKind} {a b : Int} (h : a = b) : Ending.returned (.int k a) = .returned (.int k b) := by rw [h]

/-- The slice (ao, l.length, cap), if it is not nil, lies in block b and shows the bytes l. -/
def View (w : World) (b : Nat) (ao : Option Addr) (cap : Nat) (l : List Int) : Prop :=
  (ao = none ∧ cap = 0 ∧ l = []) ∨
  ∃ off, ao = some ⟨b, off, none⟩ ∧ l.length ≤ cap ∧ cap ≤ maxLen ∧ ∀ i, i < l.length → w.cell? ⟨b, off + i, none⟩ = some (.int .u8 (l.getD i 0))

/-- A payload reader lies at block R: its rest is the slice (ao, n, cap), its mark is bad. -/
structure Reader (w : World) (R : Nat) (ao : Option Addr) (n cap : Nat) (bad : Bool) : Prop where
  c0 : w.cell? ⟨R, 0, none⟩ = some (.slice ao n cap)
  c1 : w.cell? ⟨R, 1, none⟩ = some (.bool bad)
  f0 : w.frozen? ⟨R, 0, none⟩ = false
  f1 : w.frozen? ⟨R, 1, none⟩ = false

theorem View.le {w : World} {b cap : Nat} {ao : Option Addr} {l : List Int} (h : View w b ao cap l) : l.length ≤ cap ∧ cap ≤ maxLen := by
  rcases h with ⟨_, rfl, rfl⟩ | ⟨off, _, h1, h2, _⟩
  · exact ⟨by simp, by simp⟩
  · exact ⟨h1, h2⟩

theorem View.small {w : World} {b cap : Nat} {ao : Option Addr} {l : List Int} (h : View w b ao cap l) : l.length ≤ 9223372036854775807 := by
  have := h.le
  unfold maxLen at this
  omega

theorem View.nil (w : World) (b : Nat) : View w b none 0 [] := .inl ⟨rfl, rfl, rfl⟩

theorem View.drewN {w : World} {b cap : Nat} {ao : Option Addr} {l : List Int} (h : View w b ao cap l) (q : Nat) : View (w.drewN q) b ao cap l := h

theorem View.kept {w w' : World} {b cap : Nat} {ao : Option Addr} {l : List Int} {row : Option Nat} (h : View w b ao cap l) (hg : w.grownBy w' row) (hb : some b ≠ row) : View w' b ao cap l := by
  rcases h with h | ⟨off, h0, h1, h2, h3⟩
  · exact .inl h
  · exact .inr ⟨off, h0, h1, h2, fun i hi => hg.cell (h3 i hi) hb⟩

/-- Cut at k: what lies ahead of it. -/
theorem View.front {w : World} {b cap : Nat} {ao : Option Addr} {l : List Int} (h : View w b ao cap l) (k : Nat) : View w b ao cap (l.take k) := by
  rcases h with ⟨h0, h1, rfl⟩ | ⟨off, h0, h1, h2, h3⟩
  · exact .inl ⟨h0, h1, by simp⟩
  · refine .inr ⟨off, h0, by simp; omega, h2, fun i hi => ?_⟩
    have hi' : i < k ∧ i < l.length := by simp at hi; omega
    rw [h3 i hi'.2]
    simp [List.getD, hi'.1]

/-- Cut at k: what lies behind it (where the cut stands at the capacity's end Go keeps the array's own address). -/
theorem View.back {w : World} {b cap off : Nat} {l : List Int} (h : View w b (some ⟨b, off, none⟩) cap l) (k : Nat) (hk : k ≤ l.length) :
    View w b (if cap = k then some ⟨b, off, none⟩ else some ⟨b, off + k, none⟩) (cap - k) (l.drop k) := by
  rcases h with ⟨h0, _⟩ | ⟨off', h0, h1, h2, h3⟩
  · cases h0
  · cases h0
    have hd : (l.drop k).length ≤ cap - k := by simp; omega
    by_cases hck : cap = k
    · refine .inr ⟨off, by simp [hck], hd, by omega, fun i hi => ?_⟩
      simp at hi
      omega
    · refine .inr ⟨off + k, by simp [hck], hd, by omega, fun i hi => ?_⟩
      have hi' : i < l.length - k := by simpa using hi
      rw [Nat.add_assoc, h3 (k + i) (by omega)]
      simp [List.getD]

theorem Reader.kept {w w' : World} {R n cap : Nat} {ao : Option Addr} {bad : Bool} {row : Option Nat} (h : Reader w R ao n cap bad) (hg : w.grownBy w' row) (hR : some R ≠ row) : Reader w' R ao n cap bad := by
  have hlt := World.block_lt_of_cell? w _ h.c0
  have hb : w'.heap[R]? = w.heap[R]? := hg.block R hlt hR
  exact ⟨hg.cell h.c0 hR, hg.cell h.c1 hR, (World.frozen?_of_block (a := ⟨R, 0, none⟩) hb).trans h.f0, (World.frozen?_of_block (a := ⟨R, 1, none⟩) hb).trans h.f1⟩

theorem Reader.drewN {w : World} {R n cap : Nat} {ao : Option Addr} {bad : Bool} (h : Reader w R ao n cap bad) (q : Nat) : Reader (w.drewN q) R ao n cap bad := ⟨h.c0, h.c1, h.f0, h.f1⟩

theorem Reader.lt {w : World} {R n cap : Nat} {ao : Option Addr} {bad : Bool} (h : Reader w R ao n cap bad) : R < w.heap.size := World.block_lt_of_cell? w _ h.c0

theorem Reader.set0 {w : World} {R n cap n' cap' : Nat} {ao ao' : Option Addr} {bad : Bool} (h : Reader w R ao n cap bad) : Reader (w.setCell ⟨R, 0, none⟩ (.slice ao' n' cap')) R ao' n' cap' bad :=
  ⟨World.cell?_setCell_same w _ _ h.c0, (World.cell?_setCell_other (w := w) (a := ⟨R, 0, none⟩) (b := ⟨R, 1, none⟩) _ (by simp)).trans h.c1, by rw [World.frozen?_setCell]; exact h.f0, by rw [World.frozen?_setCell]; exact h.f1⟩

theorem Reader.set1 {w : World} {R n cap : Nat} {ao : Option Addr} {bad : Bool} (h : Reader w R ao n cap bad) (bad' : Bool) : Reader (w.setCell ⟨R, 1, none⟩ (.bool bad')) R ao n cap bad' :=
  ⟨(World.cell?_setCell_other (w := w) (a := ⟨R, 1, none⟩) (b := ⟨R, 0, none⟩) _ (by simp)).trans h.c0, World.cell?_setCell_same w _ _ h.c1, by rw [World.frozen?_setCell]; exact h.f0, by rw [World.frozen?_setCell]; exact h.f1⟩

theorem Reader.made (w : World) (ao : Option Addr) (n cap : Nat) : Reader (w.alloc (.cells #[.slice ao n cap, .bool false] 41)) w.heap.size ao n cap false :=
  ⟨by simp, by simp, by simp, by simp⟩

theorem gb_setCell (w : World) (R i : Nat) (v : Value) : w.grownBy (w.setCell ⟨R, i, none⟩ v) (some R) :=
  ⟨rfl, rfl, rfl, by simp [World.setCell], fun k _ hne => Below.heap_setCell _ _ _ _ (fun e => hne (by rw [e]))⟩

theorem gb_trans {a b c : World} {row : Option Nat} (h : a.grownBy b row) (k : b.grownBy c row) : a.grownBy c row :=
  ⟨k.os.trans h.os, k.tape.trans h.tape, k.output.trans h.output, Nat.le_trans h.size k.size, fun i hi hne => (k.block i (Nat.lt_of_lt_of_le hi h.size) hne).trans (h.block i hi hne)⟩

theorem gb_some {a b : World} (h : a.grownBy b none) (row : Option Nat) : a.grownBy b row := ⟨h.os, h.tape, h.output, h.size, fun i hi _ => h.block i hi (by simp)⟩

theorem gb_drewN {a b : World} {row : Option Nat} (h : a.grownBy b row) (q : Nat) : a.grownBy (b.drewN q) row := ⟨h.os, h.tape, h.output, h.size, h.block⟩

/-- The bytes l as cells. -/
def cellsOf (l : List Int) : List Value := l.map (Value.int .u8)

theorem cellsOf_length (l : List Int) : (cellsOf l).length = l.length := by simp [cellsOf]

theorem cellsOf_get (l : List Int) (i : Nat) (h : i < l.length) : (cellsOf l)[i]? = some (.int .u8 (l.getD i 0)) := by simp [cellsOf, List.getD, h]

/-- What the call owns it can read. 'R': a block that the view's block shall not be (only of a nil slice does the law choose it). -/
theorem View.of_owns {w : World} {base cap n : Nat} {ao : Option Addr} {l : List Int} (h : w.ownsRow base 5 1 (.slice ao n cap) n (cellsOf l)) (R : Nat) (hR : w.heap.size ≤ R) :
    n = l.length ∧ ∃ b, b ≠ R ∧ base ≤ b ∧ View w b ao cap l ∧ (ao = none ∨ b < w.heap.size) := by
  have hn : n = l.length := by have := h.1; simp [cellsOf] at this; omega
  refine ⟨hn, ?_⟩
  rcases h.2 with ⟨hv, h0⟩ | ⟨g, cap', cur, hv, hg, hh, h1, h2, _⟩
  · simp at hv
    obtain ⟨rfl, rfl, rfl⟩ := hv
    refine ⟨R + 1 + base, by omega, by omega, .inl ⟨rfl, rfl, ?_⟩, .inl rfl⟩
    exact List.eq_nil_of_length_eq_zero hn.symm
  · have hlt : g < w.heap.size := (Array.getElem?_eq_some_iff.1 hh).1
    simp at hv
    obtain ⟨rfl, rfl⟩ := hv
    refine ⟨g, by omega, hg, .inr ⟨0, rfl, by omega, h2, fun i hi => ?_⟩, .inr hlt⟩
    have := h.cellAt i (by omega)
    rw [Nat.zero_add, this, cellsOf_get l i hi]

end Go.Proofs.Qxb6001749a
