/-
  The plain part of FnInputSlidesInWindowsOfHeld: what an Input holds after m calls of Hold with keep = all it holds.
-/
import Derived.Test.Qxb6618665aDoorLawA
namespace Go.Proofs.Qxb6618665aDoor
open Go.RowKit
set_option linter.unusedVariables false

/-- What holds of the Input after m calls: A = m * r bytes have been asked for. -/
structure InvB (w : World) (B : Nat) (a0 a1 : Addr) (i rb g L A r n : Nat) (fa : Option Addr) (zs ys : List Int) : Prop where
  st : St w B a0 a1 i rb g L ys (min n A) (decide (n < A)) fa zs
  len : ys.length = r

/-- One call more. -/
theorem invB_step {w w' : World} {B : Nat} {a0 a1 : Addr} {i rb g L A r n : Nat} {fa : Option Addr} {zs ys : List Int} (hr : 1 ≤ r) (hN : zs.length = n) (h : InvB w B a0 a1 i rb g L A r n fa zs ys) (g' : Nat) (ys' : List Int)
    (hD : Done w w' B a0 a1 i rb g 0 r (min (r - 0) (n - min n A)) ys (min n A) (decide (n < A)) fa zs g' ys') :
    InvB w' B a0 a1 i rb g' (min n (A + r) - min n A) (A + r) r n fa zs ys' ∧ SB w' (some ⟨g', 0, none⟩) ((zs.drop (min n A)).take (min n (A + r) - min n A)) := by
  obtain ⟨st, len, held, fr⟩ := hD
  have e1 : 0 + min (r - 0) (n - min n A) = min n (A + r) - min n A := by omega
  have e2 : min n A + min (r - 0) (n - min n A) = min n (A + r) := by omega
  have e3 : (decide (n < A) || decide (zs.length - min n A < r - 0)) = decide (n < A + r) := by
    rw [hN, Bool.eq_iff_iff]; simp; omega
  rw [e1, e2, e3] at st
  refine ⟨⟨st, len⟩, ?_⟩
  rw [e1] at held
  have e4 : min (r - 0) (n - min n A) = min n (A + r) - min n A := by omega
  rw [List.take_zero, List.nil_append, e4] at held
  have := buf_sb st.buf (min n (A + r) - min n A)
  rw [held] at this
  exact this

theorem St.draws {w : World} {B : Nat} {a0 a1 : Addr} {i rb g L : Nat} {ys : List Int} {p : Nat} {eof : Bool} {fa : Option Addr} {zs : List Int} (h : St w B a0 a1 i rb g L ys p eof fa zs) (k : Nat) : St (w.drewN k) B a0 a1 i rb g L ys p eof fa zs :=
  ⟨h.env.fr ((Fr.refl [] w).draws k) (by simp), h.inp.of_block rfl, h.rd.of_block rfl, h.buf, h.dat.fr ((Fr.refl [] w).draws k) (by simp), h.Bi, h.Br, h.Bg, h.ir, h.ig, h.rg, h.di, h.dr, h.dg, h.dl, h.Ll, h.one, h.cap, h.pl, h.zl⟩

theorem InvB.draws {w : World} {B : Nat} {a0 a1 : Addr} {i rb g L A r n : Nat} {fa : Option Addr} {zs ys : List Int} (h : InvB w B a0 a1 i rb g L A r n fa zs ys) (k : Nat) : InvB (w.drewN k) B a0 a1 i rb g L A r n fa zs ys := ⟨h.st.draws k, h.len⟩

theorem SB.window {w : World} {b : Nat} {zs : List Int} (h : SB w (some ⟨b, 0, none⟩) zs) (lo q : Nat) (hq : lo + q ≤ zs.length) : SB w (some ⟨b, lo, none⟩) ((zs.drop lo).take q) := by
  rcases h with h | ⟨b', o, e, hc⟩
  · exact .inl (by simp [h])
  · cases e
    refine .inr ⟨b, lo, rfl, fun i hi => ?_⟩
    simp at hi
    have := hc (lo + i) (by omega)
    rw [Nat.zero_add] at this
    rw [this]
    simp [List.getD, show i < q by omega]

end Go.Proofs.Qxb6618665aDoor
