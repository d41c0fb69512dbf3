/-
  Seat b6618722aF: zzSameKey, zzFirstWithKey.
-/
import Derived.Test.Qxb6618722aFmtLaw7
import Derived.Shelf.Abstract
namespace Go.Proofs.Qxb6618722aFmt
open Go.RowKit Go.Maps
set_option linter.unusedVariables false
set_option maxRecDepth 4000

def skB (s t : Step) : Bool := decide (s.role = t.role) && (if s.role = 3 then decide (s.sg = t.sg) else decide (s.idx = t.idx))
theorem skB_iff {s t : Step} : skB s t = true ↔ SameKey s t := by
  unfold skB SameKey
  by_cases h : s.role = 3 <;> simp [h]

theorem wpList_eql26 {ops : Array Oper} {rest : List Oper} {op : Oper} {a : Act} {w : World} {Q : Exit → Act → World → Prop} (hgd : op.guard = none) (x y : Operand) (t : TypeId) (ho : op.op = .binOp .eql 26 x y t) {d d' : List Int} (hd : Good d) (hd' : Good d') (hx : a.eval x = A d) (hy : a.eval y = A d')
    (h : wpList Tryf.prog ops Q rest (a.put op.dst (.bool (decide (d = d')))) w) : wpList Tryf.prog ops Q (op :: rest) a w := by
  refine wpList_plain hgd fun K hK => ?_
  unfold Oper.wp execOp
  simp only [ho, hx, hy, Sem.run_bind, guard26, eql26 hd hd', Result.andThen_ok, Sem.run_pure]
  exact hK _ _ h

set_option maxHeartbeats 1000000 in
theorem sameKey_any (s t : Step) (w : World) (hs : s.Ok) (ht : t.Ok) :
    Calls Tryf.prog 22 #[StepV s, StepV t] w fun e w' => e = .returned (.bool (skB s t)) ∧ Below w.heap.size w w' := by
  have HB : Hid (∀ w1 w2 : World, New w w1 s.cells → New w1 w2 t.cells → StepAt w2 w.heap.size 0 s ∧ StepAt w2 w1.heap.size 0 t ∧ Below w.heap.size w w2) := fun w1 w2 n1 n2 =>
    ⟨StepAt.of_range hs (rangeAt_grow n2.grown n1.range (by simp)), StepAt.of_range ht n2.range, (below_of n1.grown (Nat.le_refl _) (by simp)).trans (below_of n2.grown (by rw [n1.size]; omega) (by simp))⟩
  by_cases e1 : s.role = t.role
  · have e1' : ((s.role : Int) == (t.role : Int)) = true := by simp [e1]
    by_cases e3 : s.role = 3
    · have e3' : ((s.role : Int) == 3) = true := by simp; omega
      have hsk : skB s t = decide (s.sg = t.sg) := by unfold skB; rw [if_pos e3, decide_eq_true e1, Bool.true_and]
      rw [hsk]
      go_enter Tryf.func22, Tryf.ntmps22
      go_wp2_with (first
        | (refine wpList_boxG rfl 29 (.tmp 0) rfl s.cells rfl ?_
           intro w1 n1)
        | (refine wpList_boxG rfl 29 (.tmp 1) rfl t.cells rfl ?_
           intro w2 n2
           have zz := HB.out w1 w2 n1 n2
           have z1 := zz.1.role
           have z2 := zz.1.sg
           have y1 := zz.2.1.role
           have y2 := zz.2.1.sg
           have HZ : Hid (Below w.heap.size w w2) := zz.2.2
           simp only [Nat.zero_add] at z1 z2 y1 y2
           clear zz)
        | (refine wpList_load_mid rfl 26 (.tmp 13) rfl _ _ rfl (ar s.sg) _ z2 Tryf.underlying26 rfl (by rw [hs.sg.ar]; exact size26) ?_)
        | (refine wpList_load_mid rfl 26 (.tmp 15) rfl _ _ rfl (ar t.sg) _ y2 Tryf.underlying26 rfl (by rw [ht.sg.ar]; exact size26) ?_)
        | (refine wpList_eql26 rfl _ _ _ rfl hs.sg ht.sg rfl rfl ?_))
      go_ret
      exact ⟨rfl, HZ.out⟩
    · have e3' : ((s.role : Int) == 3) = false := by simp; omega
      have hsk : skB s t = decide (s.idx = t.idx) := by unfold skB; rw [if_neg e3, decide_eq_true e1, Bool.true_and]
      rw [hsk]
      go_enter Tryf.func22, Tryf.ntmps22
      go_wp2_with (first
        | (refine wpList_boxG rfl 29 (.tmp 0) rfl s.cells rfl ?_
           intro w1 n1)
        | (refine wpList_boxG rfl 29 (.tmp 1) rfl t.cells rfl ?_
           intro w2 n2
           have zz := HB.out w1 w2 n1 n2
           have z1 := zz.1.role
           have z2 := zz.1.idx
           have y1 := zz.2.1.role
           have y2 := zz.2.1.idx
           have HZ : Hid (Below w.heap.size w w2) := zz.2.2
           simp only [Nat.zero_add] at z1 z2 y1 y2
           clear zz))
      go_ret
      refine ⟨?_, HZ.out⟩
      first | rfl | (congr 2) | simp
  · have e1' : ((s.role : Int) == (t.role : Int)) = false := by simp; omega
    have hsk : skB s t = false := by simp [skB, e1]
    rw [hsk]
    go_enter Tryf.func22, Tryf.ntmps22
    go_wp2_with (first
      | (refine wpList_boxG rfl 29 (.tmp 0) rfl s.cells rfl ?_
         intro w1 n1)
      | (refine wpList_boxG rfl 29 (.tmp 1) rfl t.cells rfl ?_
         intro w2 n2
         have zz := HB.out w1 w2 n1 n2
         have z1 := zz.1.role
         have y1 := zz.2.1.role
         have HZ : Hid (Below w.heap.size w w2) := zz.2.2
         simp only [Nat.zero_add] at z1 y1
         clear zz))
    go_ret
    exact ⟨rfl, HZ.out⟩

section
variable {P : Program} {ops : Array Oper} {C : World → Prop} {Q : Act → Prop} {a : Act} {o : Oper} {rest : List Oper}
theorem wpQuiet_call (hw : Region.wanted o (yielded ops a.tmps) = true) (f : FuncId) (args : Array Value) (v : Value) (hrun : ∀ w, C w → (execOp a.eval o).run P w = .ok (.enter f args) w) (hc : ∀ w, C w → Calls P f args w fun e w' => e = .returned v ∧ C w')
    (h : wpQuiet P ops C Q rest (a.put o.dst v)) : wpQuiet P ops C Q (o :: rest) a := by
  unfold wpQuiet
  rw [if_pos hw]
  exact ⟨v, fun w hw => by unfold Oper.quietAt; rw [hrun w hw]; exact ⟨rfl, hc w hw⟩, h⟩
theorem wpQuiet_call2 (hw : Region.wanted o (yielded ops a.tmps) = true) (f : FuncId) (x y : Operand) (ats : Array TypeId) (ho : o.op = .call { callee := .value (.func f), args := #[x, y], argTypes := ats }) (vx vy : Value) (hx : a.eval x = vx) (hy : a.eval y = vy) (he : ∀ args w, (callFunc f args).run P w = .ok (.enter f args) w) (v : Value)
    (hc : ∀ w, C w → Calls P f #[vx, vy] w fun e w' => e = .returned v ∧ C w') (h : wpQuiet P ops C Q rest (a.put o.dst v)) : wpQuiet P ops C Q (o :: rest) a :=
  wpQuiet_call hw f #[vx, vy] v (fun w _ => by
    unfold execOp
    simp only [ho]
    go_simp
    exact ⟨by simpa [Act.eval] using hx, by simpa [Act.eval] using hy⟩) hc h
theorem wpQuiet_move (hw : Region.wanted o (yielded ops a.tmps) = true) (x : Operand) (ho : o.op = .move x) (v : Value) (hx : a.eval x = v) (h : wpQuiet P ops C Q rest (a.put o.dst v)) : wpQuiet P ops C Q (o :: rest) a :=
  wpQuiet_value hw v (fun w _ => by unfold execOp; simp only [ho, hx, Sem.run_pure]) h
/-- A region whose operations read, and whose callees leave what was there: in any order. -/
theorem wp_region_below {id : Nat} {Q : Exit → Act → World → Prop} {a : Act} {w : World} {l : List Oper} (hm : P.follows .mixedOrders = true) (hB : Region.lexB .any l.toArray = true)
    (h : wpQuiet P l.toArray (fun W => Below w.heap.size w W) (fun a' => ∀ w', Below w.heap.size w w' → Q .normal a' w') l a) : (Code.region id l.toArray true).wp P Q a w :=
  wp_region_quiet (C := fun W => Below w.heap.size w W) hm hB ⟨rfl, rfl, rfl, Nat.le_refl _, fun _ _ => rfl⟩ (by simpa using h)
end

theorem enters22 (args : Array Value) (w : World) : (callFunc 22 args).run Tryf.prog w = .ok (.enter 22 args) w := Go.Proofs.enters_of Tryf.func22 (by kernel_rfl) rfl args w
theorem enters10 (args : Array Value) (w : World) : (callFunc 10 args).run Tryf.prog w = .ok (.enter 10 args) w := Go.Proofs.enters_of Tryf.func10 (by kernel_rfl) rfl args w

/-- The first step of t's key among the first i. -/
structure IsFirst (st : List Step) (t : Step) (i f : Nat) : Prop where
  le : f ≤ i
  none : ∀ j s, j < f → st[j]? = some s → skB s t = false
  hit : f < i → ∃ s, st[f]? = some s ∧ skB s t = true

set_option maxHeartbeats 2000000 in
theorem first_any (a : Option Addr) (n c b o : Nat) (st : List Step) (i : Nat) (t : Step) (w : World) (h : Sl w a n b o st) (hi : i < n) (hn : n ≤ 1024) (ht : st[i]? = some t) (hb : b < w.heap.size) :
    Calls Tryf.prog 10 #[.slice a n c, .int .i64 i] w fun e w' => (∃ f : Nat, e = .returned (.int .i64 f) ∧ IsFirst st t i f) ∧ Below w.heap.size w w' := by
  have HS : Hid (Sl w a n b o st) := h
  have HA : Hid (a = some ⟨b, o, none⟩) := h.ad (by omega)
  have htk : t.Ok := h.ok t (List.mem_of_getElem? ht)
  have htc := h.cells i t ht
  clear h
  have HC : Hid (w.rangeAt b (o + 67 * i) t.cells) := htc
  clear htc
  have hi' : (i : Int) < (n : Int) := by omega
  go_enter Tryf.func10, Tryf.ntmps10
  go_wp2_with fail
  go_loopw [5] (fun v wr => ∃ k : Nat, k ≤ i ∧ v = .int .i64 k ∧ Hid (Below w.heap.size w wr ∧ ∀ j s, j < k → st[j]? = some s → skB s t = false)) (fun v _ => i - (intOf v).toNat)
  case atStart => exact ⟨0, by omega, rfl, Below.refl _ _, fun j s hj => by omega⟩
  case round =>
    obtain ⟨k, hk, rfl, HR⟩ := hrel
    by_cases hlt : k < i
    · have hlt' : (k : Int) < (i : Int) := by omega
      have hkn : k < n := by omega
      obtain ⟨s, hs1, hs2, hs3⟩ := HS.out.at hkn
      have HD : Hid (∀ W, Below wr.heap.size wr W → W.rangeAt b (o + 67 * k) s.cells ∧ W.rangeAt b (o + 67 * i) t.cells) := fun W hW => by
        have bb := HR.out.1.trans (hW.mono HR.out.1.size)
        exact ⟨rangeAt_eq (bb.block b hb) hs3, rangeAt_eq (bb.block b hb) HC.out⟩
      clear hs3
      go_wp2_with fail
      refine wp_region_below (by kernel_rfl) (by kernel_rfl) ?_
      iterate 8 ((first
        | (refine wpQuiet_move rfl _ rfl _ rfl ?_)
        | (refine wpQuiet_index22 rfl (.tmp 11) (.tmp 12) rfl a n c b o k rfl rfl HA.out hkn ?_)
        | (refine wpQuiet_load rfl 29 (.tmp 13) rfl _ _ rfl _ (fun W hW => load29 hs2 (HD.out W hW).1) ?_)
        | (refine wpQuiet_index22 rfl (.tmp 15) (.tmp 16) rfl a n c b o i rfl rfl HA.out hi ?_)
        | (refine wpQuiet_load rfl 29 (.tmp 17) rfl _ _ rfl _ (fun W hW => load29 htk (HD.out W hW).2) ?_)) <;> simp only [Act.put, List.setIfInBounds_toArray, List.set_cons_zero, List.set_cons_succ])
      refine wpQuiet_call2 rfl 22 (.tmp 14) (.tmp 18) _ rfl (StepV s) (StepV t) rfl rfl enters22 (.bool (skB s t)) (fun W hW => (sameKey_any s t W hs2 htk).mono fun e w' ⟨he, hb'⟩ => ⟨he, hW.trans (hb'.mono hW.size)⟩) ?_
      refine wpQuiet_nil ?_
      intro w2 hw2
      have HB2 : Hid (Below w.heap.size w w2) := HR.out.1.trans (hw2.mono HR.out.1.size)
      clear hw2
      simp only [Act.put]
      cases hsk : skB s t with
      | true =>
        have HF : Hid (IsFirst st t i k) := ⟨by omega, HR.out.2, fun _ => ⟨s, hs1, hsk⟩⟩
        go_wp2
        go_ret
        exact ⟨⟨k, rfl, HF.out⟩, HB2.out⟩
      | false =>
        have HN : Hid (∀ j s', j < k + 1 → st[j]? = some s' → skB s' t = false) := fun j s' hj hs' => by
          by_cases e : j = k
          · subst e; rw [hs1] at hs'; cases hs'; exact hsk
          · exact HR.out.2 j s' (by omega) hs'
        go_wp2
        go_roundw
        case rel => exact ⟨k + 1, by omega, by go_num, HB2.out, HN.out⟩
        case measure => simp [intOf]; omega
    · have hlt' : ¬ (k : Int) < (i : Int) := by omega
      have hik : k = i := by omega
      have HF : Hid (IsFirst st t i i) := ⟨Nat.le_refl _, by rw [← hik]; exact HR.out.2, fun h => by omega⟩
      go_wp2
      go_ret
      exact ⟨⟨i, rfl, HF.out⟩, HR.out.1⟩

end Go.Proofs.Qxb6618722aFmt
