/-
  Seat b6618722aF: FnKeepAnswerReplayChangesNothing: the parts.
-/
import Derived.Test.Qxb6618722aFmtPlain
namespace Go.Proofs.Qxb6618722aFmt
open Go.RowKit Go.Maps Go.Extern.Stop Go.Stop Go.Extern
set_option linter.unusedVariables false
set_option maxRecDepth 4000

def z29 : List Value := .int .i64 0 :: (ar zs ++ .int .u8 0 :: .int .u32 0 :: ar zs)
theorem zero29 (w : World) : (zeroValue 29).run Tryf.prog w = .ok (.agg z29.toArray) w := by kernel_rfl
theorem z29_len : z29.length = 67 := by rfl
theorem info4 : (Tryf.prog.info? 4).map (fun i => (i.zero, i.size, i.bytes)) = some (some (Value.bool false), 1, 1) := by kernel_rfl
theorem make37 (n : Nat) (hn : n ≤ 1024) (w : World) : (Instr.makeSlice 37 (.int .i64 n) (.int .i64 n)).run Tryf.prog w = .ok (.slice (some ⟨w.heap.size, 0, none⟩) n n) (w.alloc (.cells (madeCells #[.bool false] n) 4)) :=
  run_make_row' (P := Tryf.prog) 37 4 (.bool false) 1 Tryf.underlying37 info4 rfl .i64 .i64 n (by omega) (by omega) w
theorem neqErr (p : Addr) (w : World) : (binOp .neq 31 (.iface 96 (.pointer (some p))) .nilIface).run Tryf.prog w = .ok (.bool true) w := by kernel_rfl
theorem neqNil (w : World) : (binOp .neq 31 .nilIface .nilIface).run Tryf.prog w = .ok (.bool false) w := by kernel_rfl

/-- The first loop. -/
structure L1 (lo hi rb n k : Nat) (S : St) (st : List Step) (w0 w : World) : Prop where
  j : J lo hi (runTo S st k) w
  row : w.rowIs rb 4 n (fun j => .bool (decide (j < k) && rfAt S st j))
  below : Below lo w0 w

/-- A step laid in a new block. -/
theorem laid_step {w w1 w2 : World} {s : Step} (hs : s.Ok) (n1 : New w w1 z29) (s2 : Stored w1 w2 w.heap.size 0 s.cells) : StepAt w2 w.heap.size 0 s ∧ Below w.heap.size w w2 ∧ w2.heap.size = w.heap.size + 1 :=
  ⟨StepAt.of_range hs s2.range, (below_of n1.grown (Nat.le_refl _) (by simp)).trans (below_of s2.grown (by rw [n1.size]; omega) (by simp)), by rw [s2.size, n1.size]⟩

theorem L1.step {lo hi rb n k : Nat} {S : St} {st : List Step} {w0 w w2 w3 : World} {e : Ending} (h : L1 lo hi rb n k S st w0 w) (hb : Below w.heap.size w w2) {s : Step} (hs : st[k]? = some s) (hk : k < n) (hrb : hi ≤ rb)
    (hK : Kept lo hi (runTo S st k) ((runTo S st k).put s) ((runTo S st k).refuse s) w2 e w3) :
    L1 lo hi rb n (k + 1) S st w0 (w3.setCell ⟨rb, k, none⟩ (.bool (rfAt S st k))) := by
  obtain ⟨hk1, hk2⟩ := hK
  have hl := h.j.lohi
  have hsz := h.j.size
  have hrl := h.row.lt
  have hJ : J lo hi (runTo S st (k + 1)) w3 := by
    rw [runTo_succ hs]
    unfold St.step
    rcases hk1 with ⟨e1, _, e2⟩ | ⟨e1, _, e2⟩
    · rw [e1]; exact e2
    · rw [e1]; exact e2
  have hrow : w3.rowIs rb 4 n (fun j => .bool (decide (j < k) && rfAt S st j)) :=
    (h.row.of_block (hb.block rb hrl)).of_block (hk2.block rb (Nat.lt_of_lt_of_le hrl hb.size) (Or.inr hrb))
  refine ⟨hJ.grow (grown_setCell w3 rb k _) (by simp; exact hrb), (hrow.set k _).congr (fun j hj => ?_), h.below.trans ((hb.mono (by omega)).trans ?_)⟩
  · by_cases ej : j = k
    · subst ej; simp
    · simp only [ej, if_false]
      have : decide (j < k + 1) = decide (j < k) := by rw [decide_eq_decide]; omega
      rw [this]
  · have g := grown_setCell w3 rb k (.bool (rfAt S st k))
    refine ⟨g.os.trans hk2.os, g.tape.trans hk2.tape, g.output.trans hk2.output, Nat.le_trans hk2.size g.size, fun i hi' => ?_⟩
    have hw2 := hb.size
    rw [g.block i (by have := hk2.size; omega) (by simp; omega), hk2.block i (by omega) (Or.inl hi')]

/-! ### the second loop -/
theorem info26 : (Tryf.prog.info? 26).map (fun i => (i.zero, i.size, i.bytes)) = some (some (Value.agg (ar zs).toArray), 32, 32) := by kernel_rfl
theorem make38 (n : Nat) (hn : n ≤ 1024) (w : World) : (Instr.makeSlice 38 (.int .i64 n) (.int .i64 n)).run Tryf.prog w = .ok (.slice (some ⟨w.heap.size, 0, none⟩) n n) (w.alloc (.cells (madeCells (ar zs).toArray (n * 32)) 26)) := by
  obtain ⟨i, hi, hzz⟩ := Option.map_eq_some_iff.1 info26
  simp only [Prod.mk.injEq] at hzz
  obtain ⟨hz, hs, hb⟩ := hzz
  have hr := run_make (P := Tryf.prog) w 38 26 i _ Tryf.underlying38 hi hz .i64 .i64 n n (by omega) (Int.le_refl _) (by rw [hb]; omega) (by omega)
  simp only [Int.toNat_natCast, hs, Value.cells] at hr
  exact hr
theorem index38 (kb n k : Nat) (hk : k < n) (w : World) : (Instr.indexAt 38 (.slice (some ⟨kb, 0, none⟩) n n) (.int .i64 k)).run Tryf.prog w = .ok (.pointer (some ⟨kb, 32 * k, none⟩)) w := by
  have hk' : (k : Int) < (n : Int) := by omega
  have h26 : (sizeOf 26).run Tryf.prog w = .ok 32 w := by kernel_rfl
  go_simp
theorem wpList_index38 {ops : Array Oper} {rest : List Oper} {op : Oper} {a : Act} {w : World} {Q : Exit → Act → World → Prop} (hgd : op.guard = none) (x i : Operand) (ho : op.op = .indexAddr 38 x i) (kb n k : Nat) (hx : a.eval x = .slice (some ⟨kb, 0, none⟩) n n) (hi : a.eval i = .int .i64 k)
    (hk : k < n) (h : wpList Tryf.prog ops Q rest (a.put op.dst (.pointer (some ⟨kb, 32 * k, none⟩))) w) : wpList Tryf.prog ops Q (op :: rest) a w := by
  refine wpList_plain hgd fun K hK => ?_
  unfold Oper.wp
  simp only [execOp, ho, hx, hi, Sem.run_bind, index38 kb n k hk w, Result.andThen_ok, Sem.run_pure]
  exact hK _ _ h
theorem wpQuiet_index38 {ops : Array Oper} {C : World → Prop} {Q : Act → Prop} {a : Act} {o : Oper} {rest : List Oper} (hw : Region.wanted o (yielded ops a.tmps) = true) (x i : Operand) (ho : o.op = .indexAddr 38 x i) (kb n k : Nat) (hx : a.eval x = .slice (some ⟨kb, 0, none⟩) n n) (hi : a.eval i = .int .i64 k)
    (hk : k < n) (h : wpQuiet Tryf.prog ops C Q rest (a.put o.dst (.pointer (some ⟨kb, 32 * k, none⟩)))) : wpQuiet Tryf.prog ops C Q (o :: rest) a :=
  wpQuiet_value hw _ (fun w _ => by unfold execOp; simp only [ho, hx, hi, Sem.run_bind, index38 kb n k hk w, Result.andThen_ok, Sem.run_pure]) h
theorem wpQuiet_index22 {ops : Array Oper} {C : World → Prop} {Q : Act → Prop} {a : Act} {o : Oper} {rest : List Oper} (hw : Region.wanted o (yielded ops a.tmps) = true) (x i : Operand) (ho : o.op = .indexAddr 22 x i) (aa : Option Addr) (n c b f k : Nat) (hx : a.eval x = .slice aa n c) (hi : a.eval i = .int .i64 k)
    (ha : aa = some ⟨b, f, none⟩) (hk : k < n) (h : wpQuiet Tryf.prog ops C Q rest (a.put o.dst (.pointer (some ⟨b, f + 67 * k, none⟩)))) : wpQuiet Tryf.prog ops C Q (o :: rest) a :=
  wpQuiet_value hw _ (fun w _ => by unfold execOp; simp only [ho, hx, hi, Sem.run_bind, index22 aa n c b f k ha hk w, Result.andThen_ok, Sem.run_pure]) h

theorem good_get {lo hi : Nat} {S : St} {w : World} (h : J lo hi S w) (t : Step) : Good ((S.get t).getD zs) := by
  unfold St.get
  split
  · exact good_xv h t.sg
  · exact good_ans h _ _

structure L2 (n k : Nat) (S : St) (st : List Step) (wm w : World) : Prop where
  below : Below wm.heap.size wm w
  kept : ∀ j s, j < k → st[j]? = some s → w.rangeAt wm.heap.size (32 * j) (ar ((S.get s).getD zs))
  there : w.there wm.heap.size 0 (32 * n)
  row : w.rowIs (wm.heap.size + 1) 4 n (fun j => .bool (decide (j < k)))

theorem there_made (w : World) (c : Array Value) (t : TypeId) (n : Nat) (h : c.size = n) : (w.alloc (.cells c t)).there w.heap.size 0 n := by
  subst h
  have := (new_alloc w c.toList t).there
  simpa using this

theorem L2.start (n : Nat) (S : St) (st : List Step) (wm : World) : L2 n 0 S st wm ((wm.alloc (.cells (madeCells (ar zs).toArray (n * 32)) 26)).alloc (.cells (madeCells #[.bool false] n) 4)) := by
  have g1 := World.grownBy_alloc wm (.cells (madeCells (ar zs).toArray (n * 32)) 26) none
  have g2 := World.grownBy_alloc (wm.alloc (.cells (madeCells (ar zs).toArray (n * 32)) 26)) (.cells (madeCells #[.bool false] n) 4) none
  refine ⟨(below_of g1 (Nat.le_refl _) (by simp)).trans (below_of g2 (by simp) (by simp)), fun j s hj => by omega, there_grow g2 (by simp) (there_made wm _ _ _ (by rw [size_madeCells]; omega)) (by simp), ?_⟩
  have := World.rowIs_made (wm.alloc (.cells (madeCells (ar zs).toArray (n * 32)) 26)) (.bool false) n 4
  simp only [World.size_alloc] at this
  exact this.congr (fun j _ => by simp)

theorem L2.step {n k : Nat} {S : St} {st : List Step} {wm w w5 w6 : World} {s : Step} (h : L2 n k S st wm w) (hb : Below w.heap.size w w5) (hs : st[k]? = some s) (hG : ∀ t, Good ((S.get t).getD zs)) (hk : k < n)
    (s6 : Stored w5 w6 wm.heap.size (32 * k) (ar ((S.get s).getD zs))) : L2 n (k + 1) S st wm (w6.setCell ⟨wm.heap.size + 1, k, none⟩ (.bool true)) := by
  have hrl := h.row.lt
  have hz := hb.size
  have e6 := s6.size
  have g := grown_setCell w6 (wm.heap.size + 1) k (.bool true)
  have hrow6 : w6.rowIs (wm.heap.size + 1) 4 n (fun j => .bool (decide (j < k))) := (h.row.of_block (hb.block _ hrl)).of_block (s6.grown.block _ (by omega) (by simp))
  have hkb := g.block wm.heap.size (by omega) (by simp)
  refine ⟨?_, fun j s' hj hs' => ?_, ?_, (hrow6.set k _).congr (fun j hj => ?_)⟩
  · exact h.below.trans ((hb.mono (by omega)).trans ((below_of s6.grown (by omega) (by simp)).trans (below_of g (by omega) (by simp))))
  · refine rangeAt_eq hkb ?_
    by_cases ej : j = k
    · subst ej; rw [hs] at hs'; cases hs'; exact s6.range
    · intro q v hv
      have := h.kept j s' (by omega) hs' q v hv
      rw [s6.apart (32 * j + q) (by
        left
        have hq : q < (ar ((S.get s').getD zs)).length := (List.getElem?_eq_some_iff.1 hv).1
        rw [(hG s').ar] at hq
        omega), cell_eq (hb.block wm.heap.size (by omega))]
      exact this
  · exact there_eq hkb (s6.there _ _ (there_eq (hb.block wm.heap.size (by omega)) h.there))
  · by_cases ej : j = k
    · subst ej; simp
    · simp only [ej, if_false]
      have : decide (j < k + 1) = decide (j < k) := by rw [decide_eq_decide]; omega
      rw [this]

/-! ### the third loop -/
structure L3 (r : Nat) (S : St) (wm w : World) : Prop where
  below : Below wm.heap.size wm w
  row : w.rowIs wm.heap.size 39 3 (fun q => .int .i64 (if q < r then (S.cnt q : Int) else 0))
theorem L3.start (S : St) (wm : World) : L3 0 S wm (wm.alloc (.cells #[.int .i64 0, .int .i64 0, .int .i64 0] 39)) := by
  refine ⟨below_of (World.grownBy_alloc wm _ none) (Nat.le_refl _) (by simp), ?_⟩
  refine World.rowIs_alloc wm #[.int .i64 0, .int .i64 0, .int .i64 0] 39 _ (fun i hi => ?_)
  have : i = 0 ∨ i = 1 ∨ i = 2 := by simp at hi; omega
  rcases this with rfl | rfl | rfl <;> simp
theorem L3.step {r : Nat} {S : St} {wm w : World} (h : L3 r S wm w) (hr : r < 3) : L3 (r + 1) S wm (w.setCell ⟨wm.heap.size, r, none⟩ (.int .i64 (S.cnt r))) := by
  refine ⟨h.below.trans (below_of (grown_setCell w _ _ _) h.below.size (by simp)), (h.row.set r _).congr (fun j hj => ?_)⟩
  by_cases ej : j = r
  · subst ej; simp
  · simp only [ej, if_false]
    by_cases hj2 : j < r
    · rw [if_pos hj2, if_pos (by omega)]
    · rw [if_neg hj2, if_neg (by omega)]

/-! ### behind the first three loops -/
structure Arr (hi kb n : Nat) (S Sf : St) (st : List Step) (w : World) : Prop where
  rf : w.rowIs hi 4 n (fun j => .bool (rfAt S st j))
  kp : ∀ j s, st[j]? = some s → w.rangeAt kb (32 * j) (ar ((Sf.get s).getD zs))
  pr : w.rowIs (kb + 1) 4 n (fun _ => .bool true)
  kbhi : hi ≤ kb
theorem Arr.of_blocks {hi kb n : Nat} {S Sf : St} {st : List Step} {w w' : World} (h : Arr hi kb n S Sf st w) (hb : ∀ k, hi ≤ k → k < w.heap.size → w'.heap[k]? = w.heap[k]?) : Arr hi kb n S Sf st w' := by
  have h1 := h.rf.lt
  have h2 := h.pr.lt
  have h3 := h.kbhi
  exact ⟨h.rf.of_block (hb _ (Nat.le_refl _) h1), fun j s hs => rangeAt_eq (hb _ h3 (by omega)) (h.kp j s hs), h.pr.of_block (hb _ (by omega) h2), h3⟩
theorem Arr.below {hi kb n : Nat} {S Sf : St} {st : List Step} {w w' : World} (h : Arr hi kb n S Sf st w) (b : Below w.heap.size w w') : Arr hi kb n S Sf st w' := h.of_blocks (fun k _ hk => b.block k hk)
theorem Arr.fr {lo hi kb n : Nat} {S Sf : St} {st : List Step} {w w' : World} (h : Arr hi kb n S Sf st w) (b : Fr lo hi w w') : Arr hi kb n S Sf st w' := h.of_blocks (fun k h1 hk => b.block k hk (Or.inr h1))
theorem L2.done {hi n : Nat} {S Sf : St} {st : List Step} {wm w : World} (h : L2 n n Sf st wm w) (hl : st.length = n) (hr : wm.rowIs hi 4 n (fun j => .bool (rfAt S st j))) (hh : hi ≤ wm.heap.size) : Arr hi wm.heap.size n S Sf st w :=
  ⟨hr.of_block (h.below.block _ hr.lt), fun j s hs => h.kept j s (by have := (List.getElem?_eq_some_iff.1 hs).1; omega) hs, h.row.congr (fun j hj => by simp [hj]), hh⟩
theorem fr_below {lo hi : Nat} {w w' : World} (h : Fr lo hi w w') (hl : lo ≤ w.heap.size) : Below lo w w' := ⟨h.os, h.tape, h.output, h.size, fun k hk => h.block k (by omega) (Or.inl hk)⟩

end Go.Proofs.Qxb6618722aFmt
