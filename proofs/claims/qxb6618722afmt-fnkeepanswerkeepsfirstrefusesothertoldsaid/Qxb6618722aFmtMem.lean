/-
  Seat b6618722aF: operations on many cells at once, each at the operation, the world behind it a variable.
-/
import Derived.Test.Qxb6618722aFmtFnsA
import Derived.Great.Walk
namespace Go.Proofs.Qxb6618722aFmt
open Go.RowKit Go.Maps
set_option linter.unusedVariables false
set_option maxRecDepth 4000

section
variable {P : Program} {ops : Array Oper} {rest : List Oper} {op : Oper} {a : Act} {w : World} {Q : Exit → Act → World → Prop}

/-- A new block of cells. -/
structure New (w w' : World) (cs : List Value) : Prop where
  range : w'.rangeAt w.heap.size 0 cs
  there : w'.there w.heap.size 0 cs.length
  grown : w.grownBy w' none
  size : w'.heap.size = w.heap.size + 1

theorem new_alloc (w : World) (cs : List Value) (t : TypeId) : New w (w.alloc (.cells cs.toArray t)) cs := by
  have hb : (w.alloc (.cells cs.toArray t)).heap[w.heap.size]? = some (.cells cs.toArray t) := heap_alloc_new w _
  refine ⟨fun j v hv => ?_, fun j hj => ⟨?_, ?_⟩, World.grownBy_alloc w _ none, by simp⟩
  · rw [cell_of_row _ _ _ _ _ _ hb]
    simpa using hv
  · rw [cell_of_row _ _ _ _ _ _ hb]
    simpa using hj
  · unfold World.frozen?
    show (match (w.alloc (Obj.cells cs.toArray t)).heap[w.heap.size]? with | some (Obj.cells _ _ (lo, hi)) => decide (lo ≤ 0 + j) && decide (0 + j < hi) | _ => false) = false
    rw [hb]
    simp

theorem wpList_boxG (hgd : op.guard = none) (ty : TypeId) (x : Operand) (ho : op.op = .box ty x) (cs : List Value) (hx : a.eval x = .agg cs.toArray)
    (h : ∀ w', New w w' cs → wpList P ops Q rest (a.put op.dst (.pointer (some ⟨w.heap.size, 0, none⟩))) w') : wpList P ops Q (op :: rest) a w := by
  refine wpList_plain hgd fun K hK => ?_
  unfold Oper.wp execOp
  simp only [ho, hx, Sem.run_bind, Instr.box, newVar, newRow, run_newObj_alloc, Sem.run_pure, Result.andThen_ok, Value.cells]
  exact hK _ _ (h _ (new_alloc w cs ty))

theorem wpList_allocG (hgd : op.guard = none) (ty : TypeId) (ho : op.op = .alloc ty) (cs : List Value) (hz : ∀ w : World, (zeroValue ty).run P w = .ok (.agg cs.toArray) w)
    (h : ∀ w', New w w' cs → wpList P ops Q rest (a.put op.dst (.pointer (some ⟨w.heap.size, 0, none⟩))) w') : wpList P ops Q (op :: rest) a w := by
  refine wpList_plain hgd fun K hK => ?_
  unfold Oper.wp execOp
  simp only [ho, Sem.run_bind, Instr.alloc, hz, newVar, newRow, run_newObj_alloc, Sem.run_pure, Result.andThen_ok, Value.cells]
  exact hK _ _ (h _ (new_alloc w cs ty))

/-- Behind a store of the cells cs at ⟨b, o⟩. -/
structure Stored (w w' : World) (b o : Nat) (cs : List Value) : Prop where
  range : w'.rangeAt b o cs
  there : ∀ o' n, w.there b o' n → w'.there b o' n
  grown : w.grownBy w' (some b)
  size : w'.heap.size = w.heap.size
  apart : ∀ o', o' < o ∨ o + cs.length ≤ o' → w'.cell? ⟨b, o', none⟩ = w.cell? ⟨b, o', none⟩

theorem size_setCells (b : Nat) : ∀ (cs : List Value) (o : Nat) (w : World), (w.setCells b o cs).heap.size = w.heap.size
  | [], _, _ => rfl
  | v :: r, o, w => by rw [World.setCells, size_setCells b r, World.size_setCell]
theorem grown_setCell (w : World) (b o : Nat) (v : Value) : w.grownBy (w.setCell ⟨b, o, none⟩ v) (some b) :=
  ⟨rfl, rfl, rfl, by simp, fun k _ hk => RowKit.Below.heap_setCell _ _ _ _ (fun e => hk (by rw [e]))⟩
theorem grown_setCells (b : Nat) : ∀ (cs : List Value) (o : Nat) (w : World), w.grownBy (w.setCells b o cs) (some b)
  | [], _, w => ⟨rfl, rfl, rfl, Nat.le_refl _, fun _ _ _ => rfl⟩
  | v :: r, o, w => by
    rw [World.setCells]
    exact (grown_setCell w b o v).trans (grown_setCells b r (o + 1) _)

theorem stored_setCells (w : World) (b o : Nat) (cs : List Value) (ht : w.there b o cs.length) : Stored w (w.setCells b o cs) b o cs :=
  ⟨World.rangeAt_setCells_same w b o cs ht, fun o' n h => World.there_setCells h b o cs, grown_setCells b cs o w, size_setCells b cs o w,
    fun o' h => World.cell?_setCells_out b cs o w ⟨b, o', none⟩ (fun _ _ => h)⟩

theorem wpList_storeG (hgd : op.guard = none) (ty : TypeId) (x y : Operand) (ho : op.op = .store ty x y) (b o : Nat) (cs : List Value) (hx : a.eval x = .pointer (some ⟨b, o, none⟩)) (hy : a.eval y = .agg cs.toArray)
    (ht : w.there b o cs.length) (hi : (P.info? ty).map (·.size) = some cs.length) (h1 : ∀ v ∈ cs, v.oneCell' = true)
    (h : ∀ w', Stored w w' b o cs → wpList P ops Q rest (a.put op.dst undef) w') : wpList P ops Q (op :: rest) a w :=
  wpList_store_mid hgd ty x y ho b o cs.toArray hx hy (by simpa using ht) (by simpa using hi) (all_oneCell_toArray h1) (h _ (by simpa using stored_setCells w b o cs ht))

theorem results_cell2 {fn : Func} {t u : Tmp} {ty : TypeId} (h : fn.results = #[.cell t ty, .tmp u]) {tmps : Array Value} {P : Program} {w : World} {ad : Addr} {v : Value} (ht : tmps.getD t undef = .pointer (some ad)) (hl : (loadVar ty ad).run P w = .ok v w) :
    (results fn tmps).run P w = .ok (.tuple #[v, tmps.getD u undef]) w := by
  unfold results
  rw [h]
  simp only [List.mapM_toArray, List.mapM_cons, List.mapM_nil, ht, asAddr]
  simp [hl]
end

theorem size26 : (Tryf.prog.info? 26).map (·.size) = some 32 := by kernel_rfl
theorem size44 : (Tryf.prog.info? 44).map (·.size) = some 32 := by kernel_rfl
theorem size63 : (Tryf.prog.info? 63).map (·.size) = some 32 := by kernel_rfl
theorem size29 : (Tryf.prog.info? 29).map (·.size) = some 67 := by kernel_rfl
theorem ar_one (d : List Int) : ∀ v ∈ ar d, v.oneCell' = true := by
  intro v hv
  simp [ar] at hv
  obtain ⟨x, _, rfl⟩ := hv
  rfl
theorem zero26 (w : World) : (zeroValue 26).run Tryf.prog w = .ok (.agg (ar zs).toArray) w := by kernel_rfl
theorem zero63' (w : World) : (zeroValue 63).run Tryf.prog w = .ok (.agg (ar zs).toArray) w := by kernel_rfl

theorem rangeAt_grow {w w' : World} {row : Option Nat} (g : w.grownBy w' row) {b o : Nat} {cs : List Value} (h : w.rangeAt b o cs) (hne : some b ≠ row) : w'.rangeAt b o cs := fun j v hv => g.cell (h j v hv) hne
theorem there_grow {w w' : World} {row : Option Nat} (g : w.grownBy w' row) {b o n : Nat} (hb : b < w.heap.size) (h : w.there b o n) (hne : some b ≠ row) : w'.there b o n := there_eq (g.block b hb hne) h
theorem J.grow {lo hi : Nat} {S : St} {w w' : World} (h : J lo hi S w) {row : Option Nat} (g : w.grownBy w' row) (hne : ∀ b, row = some b → hi ≤ b) : J lo hi S w' :=
  h.keep g.size (fun b h1 h2 => g.block b (Nat.lt_of_lt_of_le h2 h.size) (fun e => by have := hne b e.symm; omega))

end Go.Proofs.Qxb6618722aFmt
