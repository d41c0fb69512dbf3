/-
  Seat b6618722aF: what keeping an answer does to the judge; values that are built.
-/
import Derived.Test.Qxb6618722aFmtStop
namespace Go.Proofs.Qxb6618722aFmt
open Go.RowKit Go.Maps Go.Extern.Stop Go.Stop Go.Extern
set_option linter.unusedVariables false
set_option maxRecDepth 4000

/-! ### the plain part -/
def St.putX (S : St) (sg out : List Int) : St := { S with xv := fun x => if x = sg then some out else S.xv x }
def St.putA (S : St) (r : Nat) (i : Int) (out : List Int) : St :=
  { S with cnt := fun q => if q = r then (if (S.ans r i).isSome then S.cnt r else S.cnt r + 1) else S.cnt q, ans := fun q j => if q = r ∧ j = i then some out else S.ans q j }
def St.put (S : St) (s : Step) : St := if s.role = 3 then S.putX s.sg s.out else S.putA s.role s.idx s.out
/-- Is the answer refused? -/
def St.refuse (S : St) (s : Step) : Bool :=
  match S.get s with
  | none => false
  | some d => !decide (d = s.out)

/-- All but the judge's own blocks is as it was. -/
structure Fr (lo hi : Nat) (w w' : World) : Prop where
  os : w'.os = w.os
  tape : w'.tape = w.tape
  output : w'.output = w.output
  size : w.heap.size ≤ w'.heap.size
  block : ∀ k, k < w.heap.size → (k < lo ∨ hi ≤ k) → w'.heap[k]? = w.heap[k]?
theorem Fr.refl (lo hi : Nat) (w : World) : Fr lo hi w w := ⟨rfl, rfl, rfl, Nat.le_refl _, fun _ _ _ => rfl⟩
theorem Fr.trans {lo hi : Nat} {a b c : World} (h : Fr lo hi a b) (k : Fr lo hi b c) : Fr lo hi a c :=
  ⟨k.os.trans h.os, k.tape.trans h.tape, k.output.trans h.output, Nat.le_trans h.size k.size, fun i hi' hh => (k.block i (Nat.lt_of_lt_of_le hi' h.size) hh).trans (h.block i hi' hh)⟩
theorem Fr.of_grown {lo hi : Nat} {w w' : World} {row : Option Nat} (g : w.grownBy w' row) (h : ∀ b, row = some b → lo ≤ b ∧ b < hi) : Fr lo hi w w' :=
  ⟨g.os, g.tape, g.output, g.size, fun k hk hh => g.block k hk (fun e => by have := h k e.symm; omega)⟩
theorem Fr.of_new {lo hi : Nat} {w w' : World} (g : w.grownBy w' none) : Fr lo hi w w' := Fr.of_grown g (by simp)
theorem Fr.of_below {lo hi : Nat} {w w' : World} (g : Below w.heap.size w w') : Fr lo hi w w' := ⟨g.os, g.tape, g.output, g.size, fun k hk _ => g.block k hk⟩

theorem J.putX {lo hi : Nat} {S : St} {w w' : World} (h : J lo hi S w) {sg out : List Int} (hg : Good sg) (ho : Good out) {b : Nat} (hb : S.ext sg = some b) (g : w.grownBy w' (some b))
    (h1 : w'.cell? ⟨b, 38, none⟩ = some (.bool true)) (h2 : w'.rangeAt b 39 (ar out)) (h3 : w'.there b 38 33) : J lo hi (S.putX sg out) w' := by
  obtain ⟨q1, q2, _⟩ := h.ev sg b hg hb
  have hs := h.size
  have hl := h.lohi
  refine ⟨hl, Nat.le_trans hs g.size, g.cell h.cA (by simp; omega), g.cell h.cX (by simp; omega), ?_, ?_, ?_, ?_, h.inj, h.gA, ?_⟩
  · obtain ⟨n, f, x1, x2⟩ := h.am
    exact ⟨n, f, x1.grow g (by simp; omega), x2⟩
  · intro r hr
    obtain ⟨f, x1, x2⟩ := h.rm r hr
    exact ⟨f, x1.grow g (by simp; omega), x2⟩
  · obtain ⟨n, f, x1, x2⟩ := h.xm
    exact ⟨n, f, x1.grow g (by simp; omega), x2⟩
  · intro sg' b' hg' hb'
    by_cases e : sg' = sg
    · subst e
      have : b' = b := by rw [show (S.putX sg' out).ext = S.ext from rfl, hb] at hb'; cases hb'; rfl
      subst this
      refine ⟨q1, q2, ?_, ?_, h3⟩
      · simpa [St.putX] using h1
      · simpa [St.putX] using h2
    · obtain ⟨x1, x2, x3, x4, x5⟩ := h.ev sg' b' hg' hb'
      have hne : b' ≠ b := fun eb => e (h.inj sg' sg b' hg' hg hb' (eb ▸ hb))
      have eb := g.block b' (by omega) (by simp; exact hne)
      refine ⟨x1, x2, ?_, ?_, there_eq eb x5⟩
      · rw [cell_eq eb]; simpa [St.putX, e] using x3
      · refine rangeAt_eq eb ?_; simpa [St.putX, e] using x4
  · intro sg' d hd
    simp only [St.putX] at hd
    split at hd
    · cases hd; exact ho
    · exact h.gX sg' d hd

theorem u32_ne {i j : Int} (h : j ≠ i) : (Lit.int .u32 j) ≠ .int .u32 i := fun e => by injection e with _ e; exact h e

theorem J.putA {lo hi : Nat} {S : St} {w w' : World} (h : J lo hi S w) {r : Nat} (hr : r < 3) {i : Int} (hi' : U32 i) {out : List Int} (ho : Good out) {f : Lit → Option Value} (hf : ∀ i : Int, U32 i → f (.int .u32 i) = (S.ans r i).map A)
    (p : Put 27 w w' (lo + 3 + r) (S.cnt r) f (.int .u32 i) (A out)) : J lo hi (S.putA r i out) w' := by
  have g := p.grown
  have hs := h.size
  have hl := h.lohi
  refine ⟨hl, Nat.le_trans hs g.size, g.cell h.cA (by simp; omega), g.cell h.cX (by simp; omega), ?_, ?_, ?_, ?_, h.inj, ?_, h.gX⟩
  · obtain ⟨n, f, x1, x2⟩ := h.am
    exact ⟨n, f, x1.grow g (by simp; omega), x2⟩
  · intro q hq
    by_cases e : q = r
    · subst e
      refine ⟨upd f (.int .u32 i) (A out), ?_, ?_⟩
      · have := p.map
        rw [hf i hi', Option.isSome_map] at this
        simpa [St.putA] using this
      · intro j hj
        by_cases e' : j = i
        · subst e'; rw [upd_same (isKey_int _ _)]; simp [St.putA]
        · rw [upd_other (u32_ne e'), hf j hj]; simp [St.putA, e']
    · obtain ⟨f', x1, x2⟩ := h.rm q hq
      refine ⟨f', ?_, fun j hj => ?_⟩
      · have := x1.grow g (by simp; omega)
        simpa [St.putA, e] using this
      · rw [x2 j hj]; simp [St.putA, e]
  · obtain ⟨n, f, x1, x2⟩ := h.xm
    exact ⟨n, f, x1.grow g (by simp; omega), x2⟩
  · intro sg b hg hb
    obtain ⟨x1, x2, x3, x4, x5⟩ := h.ev sg b hg hb
    have eb := g.block b (by omega) (by simp; omega)
    exact ⟨x1, x2, by rw [cell_eq eb]; exact x3, rangeAt_eq eb x4, there_eq eb x5⟩
  · intro q j d hd
    simp only [St.putA] at hd
    split at hd
    · cases hd; exact ho
    · exact h.gA q j d hd

/-! ### values that are built -/
def L32 (f : Nat → Int) : List Int := [f 0, f 1, f 2, f 3, f 4, f 5, f 6, f 7, f 8, f 9, f 10, f 11, f 12, f 13, f 14, f 15, f 16, f 17, f 18, f 19, f 20, f 21, f 22, f 23, f 24, f 25, f 26, f 27, f 28, f 29, f 30, f 31]
theorem Good.l32 {d : List Int} (h : Good d) : d = L32 (fun i => d.getD i 0) := by
  have e : L32 (fun i => d.getD i 0) = (List.range 32).map (fun i => d.getD i 0) := rfl
  rw [e]
  apply List.ext_getElem
  · simp [h.len]
  · intro i h1 h2
    simp [h1]

def c54 (sg : List Int) : List Value := ar sg ++ [.slice none 0 0, .slice none 0 0]
def c60 (n : Int) (sg : List Int) : List Value := .int .i64 n :: (c54 sg ++ [.nilIface, .nilIface])
def c65 (i : Int) : List Value := List.replicate 32 (.int .u8 0) ++ [.int .u32 i, .int .u32 0] ++ List.replicate 32 (.int .u8 0)
def c67 (r : Nat) (i : Int) (out : List Int) : List Value := .int .u8 r :: (c65 i ++ [.slice none 0 0] ++ ar out)

theorem built54 {sg : List Int} (h : Good sg) : Tryf.prog.built 54 [(0, .agg (ar sg).toArray)] = some (c54 sg).toArray := by
  rw [h.l32]
  kernel_rfl
theorem built60 (n : Int) {sg : List Int} (h : Good sg) : Tryf.prog.built 60 [(0, .int .i64 n), (1, .agg (c54 sg).toArray)] = some (c60 n sg).toArray := by
  rw [h.l32]
  kernel_rfl
theorem built65 (i : Int) : Tryf.prog.built 65 [(1, .int .u32 i)] = some (c65 i).toArray := by kernel_rfl
theorem built67 (r : Nat) (i : Int) {out : List Int} (h : Good out) : Tryf.prog.built 67 [(0, .int .u8 r), (1, .agg (c65 i).toArray), (3, .agg (ar out).toArray)] = some (c67 r i out).toArray := by
  rw [h.l32]
  kernel_rfl

theorem wpList_buildG {P : Program} {ops : Array Oper} {rest : List Oper} {op : Oper} {a : Act} {w : World} {Q : Exit → Act → World → Prop} (hgd : op.guard = none) (t : TypeId) (parts : Array (Nat × Operand)) (ho : op.op = .build t parts) (vals : List (Nat × Value)) (hp : (parts.map fun (i, x) => (i, a.eval x)).toList = vals)
    (cs : List Value) (hb : P.built t vals = some cs.toArray) (h : wpList P ops Q rest (a.put op.dst (.agg cs.toArray)) w) : wpList P ops Q (op :: rest) a w := by
  refine wpList_plain hgd fun K hK => ?_
  unfold Oper.wp
  have hr := run_build (P := P) w t (parts.map fun (i, x) => (i, a.eval x)) cs.toArray (by rw [hp]; exact hb)
  simp only [execOp, ho, Sem.run_bind, hr, Result.andThen_ok, Sem.run_pure]
  exact hK _ _ h

end Go.Proofs.Qxb6618722aFmt
