/-
  The plain part of FnInputEOFWhenDataShorterThanDoubledRoom: the room that is reached; what an Input holds after j calls of Hold(0).
-/
import Derived.Test.Qxb6618665aDoorNew
namespace Go.Proofs.Qxb6618665aDoor
open Go.RowKit
set_option linter.unusedVariables false

/-- The room after j doublings (each where the room is not beyond the data). -/
def tt (r n : Nat) : Nat → Nat
  | 0 => r
  | j + 1 => if tt r n j ≤ n then 2 * tt r n j else tt r n j

theorem tt_pos (r n : Nat) (hr : 1 ≤ r) : ∀ j, 1 ≤ tt r n j
  | 0 => hr
  | j + 1 => by have := tt_pos r n hr j; simp only [tt]; split <;> omega

theorem tt_le (r n : Nat) (hr : r ≤ 65536) (hn : n ≤ 65536) : ∀ j, tt r n j ≤ 131072
  | 0 => by simp only [tt]; omega
  | j + 1 => by have := tt_le r n hr hn j; simp only [tt]; split <;> omega

theorem tt_stop (r n j : Nat) (h : n < tt r n j) : ∀ d, tt r n (j + d) = tt r n j
  | 0 => rfl
  | d + 1 => by
    have := tt_stop r n j h d
    show (if tt r n (j + d) ≤ n then 2 * tt r n (j + d) else tt r n (j + d)) = _
    rw [this, if_neg (by omega)]

/-- How many bytes are held after j calls. -/
def hl (r n j : Nat) : Nat := if j = 0 then 0 else min n (tt r n (j - 1))
/-- EOF after j calls. -/
def ef (r n j : Nat) : Bool := decide (1 ≤ j) && decide (n < tt r n (j - 1))

/-- What holds of the Input after j calls of Hold(0). -/
structure InvA (w : World) (B : Nat) (a0 a1 : Addr) (i rb g j r n : Nat) (fa : Option Addr) (zs ys : List Int) : Prop where
  st : St w B a0 a1 i rb g (hl r n j) ys (hl r n j) (ef r n j) fa zs
  len : ys.length = tt r n (j - 1)
  held : ys.take (hl r n j) = zs.take (hl r n j)

theorem step_nums (r n j : Nat) (hr : 1 ≤ r) : ∃ C', C' = (if hl r n j = tt r n (j - 1) then 2 * tt r n (j - 1) else tt r n (j - 1)) ∧ C' = tt r n ((j + 1) - 1) ∧ hl r n j + min (C' - hl r n j) (n - hl r n j) = hl r n (j + 1) ∧
    (ef r n j || decide (n - hl r n j < C' - hl r n j)) = ef r n (j + 1) ∧ hl r n j ≤ n := by
  refine ⟨_, rfl, ?_⟩
  have hp := tt_pos r n hr (j - 1)
  cases j with
  | zero =>
    have h0 : hl r n 0 = 0 := rfl
    rw [h0, if_neg (by omega)]
    refine ⟨rfl, ?_, ?_, by omega⟩
    · show 0 + min (tt r n 0 - 0) (n - 0) = min n (tt r n 0)
      omega
    · simp [ef]
  | succ j =>
    have hh : hl r n (j + 1) = min n (tt r n j) := by simp [hl]
    have hh2 : hl r n (j + 2) = min n (tt r n (j + 1)) := by simp [hl]
    have e1 : (j + 1 - 1 : Nat) = j := by omega
    have e2 : (j + 1 + 1 - 1 : Nat) = j + 1 := by omega
    have h1 : ef r n (j + 1) = decide (n < tt r n j) := by simp [ef]
    have h2 : ef r n (j + 2) = decide (n < tt r n (j + 1)) := by simp [ef]
    rw [e1, e2, hh2, h2, h1, hh]
    have hs : tt r n (j + 1) = if tt r n j ≤ n then 2 * tt r n j else tt r n j := rfl
    rw [hs]
    by_cases hc : tt r n j ≤ n
    · rw [if_pos (by omega), if_pos hc]
      refine ⟨rfl, by omega, ?_, by omega⟩
      rw [Bool.eq_iff_iff]; simp; omega
    · rw [if_neg (by omega), if_neg hc]
      refine ⟨rfl, by omega, ?_, by omega⟩
      rw [Bool.eq_iff_iff]; simp; omega

theorem take_more (zs : List Int) (L q : Nat) : zs.take L ++ (zs.drop L).take q = zs.take (L + q) := by
  rw [List.take_add]

/-- One call more. -/
theorem invA_step {w w' : World} {B : Nat} {a0 a1 : Addr} {i rb g j r n : Nat} {fa : Option Addr} {zs ys : List Int} (hr : 1 ≤ r) (hN : zs.length = n) (h : InvA w B a0 a1 i rb g j r n fa zs ys) (C' g' : Nat) (ys' : List Int)
    (hC' : C' = if hl r n j = tt r n (j - 1) then 2 * tt r n (j - 1) else tt r n (j - 1))
    (hD : Done w w' B a0 a1 i rb g (hl r n j) C' (min (C' - hl r n j) (n - hl r n j)) ys (hl r n j) (ef r n j) fa zs g' ys') : InvA w' B a0 a1 i rb g' (j + 1) r n fa zs ys' := by
  obtain ⟨C2, e1, e2, e3, e4, e5⟩ := step_nums r n j hr
  obtain rfl : C2 = C' := e1.trans hC'.symm
  obtain ⟨st, len, held, fr⟩ := hD
  rw [hN, e3, e4] at st
  refine ⟨st, len.trans e2, ?_⟩
  rw [e3, h.held, take_more, e3] at held
  exact held

end Go.Proofs.Qxb6618665aDoor
