/-
  The plain part of the proofs of seat b6618665aD: a slice of bytes in memory ('SB').
-/
import Derived.WalkKit
import Derived.WalkSpells
import Derived.Deep.OwnRows
import Derived.Deep.AppendLies
namespace Go.Proofs.Qxb6618665aDoor
open Go.RowKit

/-! ### Memory -/
/-- The address a (of a slice of 'zs.length' bytes) leads to the bytes zs. -/
def SB (w : World) (a : Option Addr) (zs : List Int) : Prop :=
  zs = [] ∨ ∃ b off, a = some ⟨b, off, none⟩ ∧ ∀ i, i < zs.length → w.cell? ⟨b, off + i, none⟩ = some (.int .u8 (zs.getD i 0))

/-- Block b is no block of a's. -/
def Apart (a : Option Addr) (b : Nat) : Prop := ∀ x, a = some x → x.block ≠ b

theorem SB.grown {w w' : World} {a : Option Addr} {zs : List Int} {b : Nat} (h : SB w a zs) (hg : w.grownBy w' (some b)) (ha : Apart a b) : SB w' a zs := by
  rcases h with h | ⟨c, off, rfl, hc⟩
  · exact .inl h
  · exact .inr ⟨c, off, rfl, fun i hi => hg.cell (hc i hi) (by have := ha _ rfl; simpa using this)⟩

theorem SB.grown0 {w w' : World} {a : Option Addr} {zs : List Int} (h : SB w a zs) (hg : w.grownBy w' none) : SB w' a zs := by
  rcases h with h | ⟨c, off, rfl, hc⟩
  · exact .inl h
  · exact .inr ⟨c, off, rfl, fun i hi => hg.cell (hc i hi) (by simp)⟩

theorem SB.take {w : World} {a : Option Addr} {zs : List Int} (h : SB w a zs) (k : Nat) : SB w a (zs.take k) := by
  rcases h with h | ⟨c, off, rfl, hc⟩
  · exact .inl (by simp [h])
  · refine .inr ⟨c, off, rfl, fun i hi => ?_⟩
    simp at hi
    rw [hc i (by omega)]
    simp [List.getD, show i < k by omega]

/-- The address of a slice that a call has made (or nil). -/
def Made (w w' : World) (a : Option Addr) : Prop := a = none ∨ (a = some ⟨w.heap.size, 0, none⟩ ∧ w.heap.size < w'.heap.size)

theorem Made.apart {w w' : World} {a : Option Addr} (h : Made w w' a) {b : Nat} (hb : w'.heap.size ≤ b) : Apart a b := by
  intro x hx
  rcases h with rfl | ⟨rfl, h⟩
  · cases hx
  · cases hx
    simp only [ne_eq]
    omega

theorem grownBy_setCell (w : World) (b o : Nat) (v : Value) : w.grownBy (w.setCell ⟨b, o, none⟩ v) (some b) :=
  ⟨rfl, rfl, rfl, by simp [World.setCell], fun k _ hk => Below.heap_setCell _ _ _ _ (by simpa using hk)⟩

theorem grownBy_drew {w w' : World} {row : Option Nat} (h : w.grownBy w' row) : w.grownBy w'.drew row := ⟨h.os, h.tape, h.output, h.size, h.block⟩

/-- A block of the call's own was made behind w: 'Below' w's size. -/
theorem below_of {B : Nat} {a w w' : World} {row : Option Nat} (h : Below B a w) (hB : B ≤ w.heap.size) (hg : w.grownBy w' row) (hr : ∀ k, row = some k → B ≤ k) : Below B a w' := h.grown hg hB hr

end Go.Proofs.Qxb6618665aDoor
