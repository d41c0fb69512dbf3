/-
  Seat b6618722aF: ZZjudgeAnswer, ZZjudgeExtra, zzKept.
-/
import Derived.Test.Qxb6618722aFmtMem
namespace Go.Proofs.Qxb6618722aFmt
open Go.RowKit Go.Maps
set_option linter.unusedVariables false
set_option maxRecDepth 4000

theorem good_ans {lo hi : Nat} {S : St} {w : World} (h : J lo hi S w) (r : Nat) (i : Int) : Good ((S.ans r i).getD zs) := by
  cases e : S.ans r i with
  | none => exact good_zs
  | some d => exact h.gA r i d e
theorem good_xv {lo hi : Nat} {S : St} {w : World} (h : J lo hi S w) (sg : List Int) : Good ((S.xv sg).getD zs) := by
  cases e : S.xv sg with
  | none => exact good_zs
  | some d => exact h.gX sg d e
theorem Good.ar {d : List Int} (h : Good d) : (ar d).length = 32 := by rw [ar_len, h.len]
theorem below_of {w w' : World} {row : Option Nat} (g : w.grownBy w' row) {B : Nat} (hB : B ≤ w.heap.size) (hne : ∀ b, row = some b → B ≤ b) : Below B w w' :=
  ⟨g.os, g.tape, g.output, g.size, fun k hk => g.block k (Nat.lt_of_lt_of_le hk hB) (fun e => by have := hne k e.symm; omega)⟩

set_option maxHeartbeats 1000000 in
theorem answer_any (lo hi : Nat) (S : St) (r : Nat) (i : Int) (w : World) (h : J lo hi S w) (hr : r < 3) (hi' : U32 i) :
    Calls Tryf.prog 24 #[.pointer (some ⟨lo + 2, 0, none⟩), .int .u8 r, .int .u32 i] w fun e w' => e = .returned (.tuple #[A ((S.ans r i).getD zs), .bool (S.ans r i).isSome]) ∧ Below w.heap.size w w' := by
  have HJ : Hid (J lo hi S w) := h
  have hd := (good_ans h r i)
  clear h
  go_enter Tryf.func24, Tryf.ntmps24
  go_wp2_with (first
    | (refine wpList_allocG rfl 26 rfl (ar zs) zero26 ?_
       intro w1 n1
       have HJ1 : Hid (J lo hi S w1) := HJ.out.grow n1.grown (by simp)
       have k1 := HJ1.out.cA
       have k2 := HJ1.out.lookR hr
       have k3 := HJ1.out.lookI hr hi')
    | (refine wpList_allocG rfl 63 rfl (ar zs) zero63' ?_
       intro w2 n2)
    | (refine wpList_storeG rfl 63 _ _ rfl _ _ (ar ((S.ans r i).getD zs)) rfl rfl (by rw [hd.ar]; exact n2.there) (by rw [hd.ar]; exact size63) (ar_one _) ?_
       intro w3 s3)
    | (refine wpList_load_mid rfl 63 _ rfl _ _ rfl (ar ((S.ans r i).getD zs)) _ s3.range Tryf.underlying63 rfl (by rw [hd.ar]; exact size63) ?_)
    | (refine wpList_storeG rfl 26 _ _ rfl _ _ (ar ((S.ans r i).getD zs)) rfl rfl (by rw [hd.ar]; exact there_grow s3.grown (by rw [n2.size, n1.size]; omega) (there_grow n2.grown (by rw [n1.size]; omega) n1.there (by simp)) (by rw [n1.size]; simp)) (by rw [hd.ar]; exact size26) (ar_one _) ?_
       intro w4 s4)
    | go_in)
  refine bodyPost_ret (results_cell2 rfl rfl (run_loadVar_mid _ _ _ _ (ar ((S.ans r i).getD zs)) _ s4.range Tryf.underlying26 rfl (by rw [hd.ar]; exact size26))) rfl ?_
  have e1 := n1.size
  have e2 := n2.size
  exact ⟨rfl, (below_of n1.grown (Nat.le_refl _) (by simp)).trans ((below_of n2.grown (by omega) (by simp)).trans ((below_of s3.grown (by omega) (by simp; omega)).trans (below_of s4.grown (by rw [s3.size]; omega) (by simp))))⟩

theorem heap_drewN (w : World) (n : Nat) : (w.drewN n).heap = w.heap := rfl
theorem J.drewN {lo hi : Nat} {S : St} {w : World} (h : J lo hi S w) (n : Nat) : J lo hi S (w.drewN n) := h.keep (Nat.le_refl _) (fun _ _ _ => rfl)
theorem rangeAt_drewN {w : World} {b o : Nat} {cs : List Value} (h : w.rangeAt b o cs) (n : Nat) : (w.drewN n).rangeAt b o cs := rangeAt_eq (w := w) rfl h
theorem there_drewN {w : World} {b o n : Nat} (h : w.there b o n) (k : Nat) : (w.drewN k).there b o n := there_eq (w := w) rfl h
theorem loadV26 {w : World} {b o : Nat} {d : List Int} (hd : Good d) (h : w.rangeAt b o (ar d)) : (loadVar 26 ⟨b, o, none⟩).run Tryf.prog w = .ok (A d) w :=
  run_loadVar_mid w b o 26 (ar d) _ h Tryf.underlying26 rfl (by rw [hd.ar]; exact size26)
theorem load26 {w : World} {b o : Nat} {d : List Int} (hd : Good d) (h : w.rangeAt b o (ar d)) : (Instr.loadAt 26 (.pointer (some ⟨b, o, none⟩))).run Tryf.prog w = .ok (A d) w :=
  run_loadAt_mid w b o 26 (ar d) _ h Tryf.underlying26 rfl (by rw [hd.ar]; exact size26)
theorem loadV44 {w : World} {b o : Nat} {d : List Int} (hd : Good d) (h : w.rangeAt b o (ar d)) : (loadVar 44 ⟨b, o, none⟩).run Tryf.prog w = .ok (A d) w :=
  run_loadVar_mid w b o 44 (ar d) _ h Tryf.underlying44 rfl (by rw [hd.ar]; exact size44)
theorem load44 {w : World} {b o : Nat} {d : List Int} (hd : Good d) (h : w.rangeAt b o (ar d)) : (Instr.loadAt 44 (.pointer (some ⟨b, o, none⟩))).run Tryf.prog w = .ok (A d) w :=
  run_loadAt_mid w b o 44 (ar d) _ h Tryf.underlying44 rfl (by rw [hd.ar]; exact size44)
theorem loadV63 {w : World} {b o : Nat} {d : List Int} (hd : Good d) (h : w.rangeAt b o (ar d)) : (loadVar 63 ⟨b, o, none⟩).run Tryf.prog w = .ok (A d) w :=
  run_loadVar_mid w b o 63 (ar d) _ h Tryf.underlying63 rfl (by rw [hd.ar]; exact size63)
theorem load63 {w : World} {b o : Nat} {d : List Int} (hd : Good d) (h : w.rangeAt b o (ar d)) : (Instr.loadAt 63 (.pointer (some ⟨b, o, none⟩))).run Tryf.prog w = .ok (A d) w :=
  run_loadAt_mid w b o 63 (ar d) _ h Tryf.underlying63 rfl (by rw [hd.ar]; exact size63)
theorem store26 {w : World} {b o : Nat} {d : List Int} (hd : Good d) (h : w.there b o 32) : (Instr.storeAt 26 (.pointer (some ⟨b, o, none⟩)) (A d)).run Tryf.prog w = .ok () (w.setCells b o (ar d)) :=
  run_storeAt_mid w b o 26 (ar d).toArray (by simpa [hd.ar] using h) (by simpa [hd.ar] using size26) (all_oneCell_toArray (ar_one d))

section
variable {P : Program} {ops : Array Oper} {C : World → Prop} {Q : Act → Prop} {a : Act} {o : Oper} {rest : List Oper}
/-- A step of a quiet region whose value is known. -/
theorem wpQuiet_value (hw : Region.wanted o (yielded ops a.tmps) = true) (v : Value) (hrun : ∀ w, C w → (execOp a.eval o).run P w = .ok (.value v) w) (h : wpQuiet P ops C Q rest (a.put o.dst v)) : wpQuiet P ops C Q (o :: rest) a := by
  unfold wpQuiet
  rw [if_pos hw]
  exact ⟨v, fun w hw => by unfold Oper.quietAt; rw [hrun w hw]; exact ⟨rfl, rfl⟩, h⟩
theorem wpQuiet_load (hw : Region.wanted o (yielded ops a.tmps) = true) (ty : TypeId) (x : Operand) (ho : o.op = .load ty x) (b f : Nat) (hx : a.eval x = .pointer (some ⟨b, f, none⟩)) (v : Value) (hl : ∀ w, C w → (Instr.loadAt ty (.pointer (some ⟨b, f, none⟩))).run P w = .ok v w)
    (h : wpQuiet P ops C Q rest (a.put o.dst v)) : wpQuiet P ops C Q (o :: rest) a :=
  wpQuiet_value hw v (fun w hc => by unfold execOp; simp only [ho, hx, Sem.run_bind, hl w hc, Result.andThen_ok, Sem.run_pure]) h
end

theorem keep_stored {w : World} {b nb : Nat} {v : Value} {cs vs : List Value} {n : Nat} (h : w.cell? ⟨b, 38, none⟩ = some v ∧ w.rangeAt b 39 cs ∧ w.there nb 0 n) (hne : b ≠ nb) :
    (w.setCells nb 0 vs).cell? ⟨b, 38, none⟩ = some v ∧ (w.setCells nb 0 vs).rangeAt b 39 cs ∧ (w.setCells nb 0 vs).there nb 0 n :=
  ⟨by rw [World.cell?_setCells_out nb vs 0 w _ (fun e => absurd e hne)]; exact h.1, World.rangeAt_setCells_apart h.2.1 nb 0 vs (Or.inl hne), World.there_setCells h.2.2 nb 0 vs⟩

set_option maxHeartbeats 1000000 in
theorem extra_any (lo hi : Nat) (S : St) (sg : List Int) (b : Nat) (w : World) (h : J lo hi S w) (hg : Good sg) (hb : S.ext sg = some b) :
    Calls Tryf.prog 23 #[.pointer (some ⟨lo + 2, 0, none⟩), A sg] w fun e w' => e = .returned (.tuple #[A ((S.xv sg).getD zs), .bool (S.xv sg).isSome]) ∧ Below w.heap.size w w' := by
  have HJ : Hid (J lo hi S w) := h
  have hd := (good_xv h sg)
  clear h
  go_enter Tryf.func23, Tryf.ntmps23
  go_wp2_with (first
    | (refine wpList_boxG rfl 26 _ rfl (ar sg) rfl ?_
       intro w1 n1
       have HJ1 : Hid (J lo hi S w1) := HJ.out.grow n1.grown (by simp))
    | (refine wpList_allocG rfl 26 rfl (ar zs) zero26 ?_
       intro w2 n2
       have HJ2 : Hid (J lo hi S w2) := HJ1.out.grow n2.grown (by simp)
       have k1 := HJ2.out.cX
       have k2 : ∀ n, _ := fun n => (HJ2.out.drewN n).lookX hg hb
       have k3 : ∀ w', (∃ n, w' = w2.drewN n) → _ := fun w' ⟨n, e⟩ => e ▸ load26 hg (rangeAt_drewN (rangeAt_grow n2.grown n1.range (by simp)) n))
    | go_in)
  refine wp_region_quiet_lit (by kernel_rfl) (by kernel_rfl) ?_
  repeat (first | (refine wpQuiet_load rfl 26 _ rfl _ _ rfl _ k3 ?_) | quiet_step (fail))
  refine wpQuiet_nil ?_
  rintro _ ⟨nq, rfl⟩
  go_wp2_with fail
  obtain ⟨_, x0, x1, x2, x3⟩ := HJ2.out.ev sg b hg hb
  have hne : b ≠ w1.heap.size := by have := HJ1.out.size; omega
  have x4 : (w2.drewN nq).rangeAt b 39 (ar ((S.xv sg).getD zs)) := rangeAt_drewN x2 nq
  have x5 : (w2.drewN nq).there w1.heap.size 0 32 := there_drewN n2.there nq
  have x6 : (w2.drewN nq).cell? ⟨b, 38, none⟩ = some (.bool (S.xv sg).isSome) := x1
  have u63 := Tryf.underlying63
  have u26 := Tryf.underlying26
  have i63 : (Tryf.prog.info? 63).map (·.size) = some (ar ((S.xv sg).getD zs)).length := by rw [hd.ar]; exact size63
  have i26 : (Tryf.prog.info? 26).map (·.size) = some (ar ((S.xv sg).getD zs)).length := by rw [hd.ar]; exact size26
  have l32 : (ar ((S.xv sg).getD zs)).length = 32 := hd.ar
  have o1 := ar_one ((S.xv sg).getD zs)
  generalize hw3 : w2.drewN nq = w3 at *
  go_region_held3 (fun w' => w'.cell? ⟨b, 38, none⟩ = some (.bool (S.xv sg).isSome) ∧ w'.rangeAt b 39 (ar ((S.xv sg).getD zs)) ∧ w'.there w1.heap.size 0 32) (first | exact keep_stored ⟨by assumption, by assumption, by assumption⟩ hne | go_keep_ranges) (fail)
  go_wp2
  have x7 : w3.drew.there w1.heap.size 0 (ar ((S.xv sg).getD zs)).length := by rw [l32]; exact there_eq (w := w3) rfl x5
  have s4 := stored_setCells w3.drew w1.heap.size 0 (ar ((S.xv sg).getD zs)) x7
  generalize w3.drew.setCells w1.heap.size 0 (ar ((S.xv sg).getD zs)) = w4 at s4 ⊢
  refine bodyPost_ret (results_cell2 rfl rfl (run_loadVar_mid _ _ _ _ (ar ((S.xv sg).getD zs)) _ s4.range Tryf.underlying26 rfl i26)) rfl ?_
  have e1 := n1.size
  have e2 := n2.size
  have e3 : w3.drew.heap.size = w2.heap.size := by rw [← hw3]; rfl
  have b3 : Below w.heap.size w2 w3.drew := by rw [← hw3]; exact ⟨rfl, rfl, rfl, Nat.le_refl _, fun _ _ => rfl⟩
  exact ⟨rfl, (below_of n1.grown (Nat.le_refl _) (by simp)).trans ((below_of n2.grown (by omega) (by simp)).trans (b3.trans (below_of s4.grown (by omega) (by simp; omega))))⟩

/-! ### a step -/
structure Step where
  line : Int
  sg : List Int
  role : Nat
  idx : Int
  out : List Int
def Step.cells (s : Step) : List Value := .int .i64 s.line :: (ar s.sg ++ .int .u8 s.role :: .int .u32 s.idx :: ar s.out)
structure Step.Ok (s : Step) : Prop where
  sg : Good s.sg
  out : Good s.out
  idx : U32 s.idx
theorem Step.len {s : Step} (h : s.Ok) : s.cells.length = 67 := by simp [Step.cells, h.sg.ar, h.out.ar]
theorem Step.one (s : Step) : ∀ v ∈ s.cells, v.oneCell' = true := by
  intro v hv
  simp only [Step.cells, List.mem_cons, List.mem_append] at hv
  rcases hv with rfl | hv | rfl | rfl | hv
  · rfl
  · exact ar_one _ v hv
  · rfl
  · rfl
  · exact ar_one _ v hv

/-- A step in memory. -/
structure StepAt (w : World) (b o : Nat) (s : Step) : Prop where
  line : w.cell? ⟨b, o, none⟩ = some (.int .i64 s.line)
  sg : w.rangeAt b (o + 1) (ar s.sg)
  role : w.cell? ⟨b, o + 33, none⟩ = some (.int .u8 s.role)
  idx : w.cell? ⟨b, o + 34, none⟩ = some (.int .u32 s.idx)
  out : w.rangeAt b (o + 35) (ar s.out)

theorem StepAt.of_range {w : World} {b o : Nat} {s : Step} (hs : s.Ok) (h : w.rangeAt b o s.cells) : StepAt w b o s := by
  have l1 := hs.sg.ar
  have l2 := hs.out.ar
  refine ⟨by simpa using h 0 _ rfl, fun j v hv => ?_, ?_, ?_, fun j v hv => ?_⟩
  · have hj : j < (ar s.sg).length := (List.getElem?_eq_some_iff.1 hv).1
    have := h (1 + j) v (by simp only [Step.cells]; rw [Nat.add_comm 1 j, List.getElem?_cons_succ, List.getElem?_append_left hj]; exact hv)
    rw [← this]; congr 2; omega
  · refine h 33 _ ?_
    simp only [Step.cells]
    rw [show (33 : Nat) = 32 + 1 from rfl, List.getElem?_cons_succ, List.getElem?_append_right (by omega), l1]
    rfl
  · refine h 34 _ ?_
    simp only [Step.cells]
    rw [show (34 : Nat) = 33 + 1 from rfl, List.getElem?_cons_succ, List.getElem?_append_right (by omega), l1]
    rfl
  · have := h (35 + j) v (by
      simp only [Step.cells]
      rw [show 35 + j = (34 + j) + 1 from by omega, List.getElem?_cons_succ, List.getElem?_append_right (by omega), l1, show 34 + j - 32 = (j + 1) + 1 from by omega, List.getElem?_cons_succ, List.getElem?_cons_succ]
      exact hv)
    rw [← this]; congr 2; omega

def StepV (s : Step) : Value := .agg s.cells.toArray

theorem load29 {w : World} {b o : Nat} {s : Step} (hs : s.Ok) (h : w.rangeAt b o s.cells) : (Instr.loadAt 29 (.pointer (some ⟨b, o, none⟩))).run Tryf.prog w = .ok (StepV s) w :=
  run_loadAt_mid w b o 29 s.cells _ h Tryf.underlying29 rfl (by rw [Step.len hs]; exact size29)

/-- What the judge keeps at a step's key. -/
def St.get (S : St) (s : Step) : Option (List Int) := if s.role = 3 then S.xv s.sg else S.ans s.role s.idx

set_option maxHeartbeats 1000000 in
theorem kept_any (lo hi : Nat) (S : St) (s : Step) (w : World) (h : J lo hi S w) (hs : s.Ok) (hr : s.role ≤ 3) (hx : s.role = 3 → S.ext s.sg ≠ none) :
    Calls Tryf.prog 11 #[.pointer (some ⟨lo + 2, 0, none⟩), StepV s] w fun e w' => e = .returned (.tuple #[A ((S.get s).getD zs), .bool (S.get s).isSome]) ∧ Below w.heap.size w w' := by
  have HJ : Hid (J lo hi S w) := h
  have hd : Good ((S.get s).getD zs) := by
    unfold St.get
    split
    · exact good_xv h s.sg
    · exact good_ans h _ _
  have i26 : (Tryf.prog.info? 26).map (·.size) = some (ar ((S.get s).getD zs)).length := by rw [hd.ar]; exact size26
  clear h
  by_cases e3 : s.role = 3
  · obtain ⟨b, hb⟩ := Option.ne_none_iff_exists'.1 (hx e3)
    go_enter Tryf.func11, Tryf.ntmps11
    go_wp2_with (first
      | (refine wpList_boxG rfl 29 _ rfl s.cells rfl ?_
         intro w1 n1
         have HJ1 : Hid (J lo hi S w1) := HJ.out.grow n1.grown (by simp)
         have z1 := StepAt.of_range hs n1.range)
      | (refine wpList_allocG rfl 26 rfl (ar zs) zero26 ?_
         intro w2 n2
         have HJ2 : Hid (J lo hi S w2) := HJ1.out.grow n2.grown (by simp)
         have z2 := rangeAt_grow n2.grown z1.sg (by simp)
         have z3 := n2.grown.cell z1.role (by simp)
         simp only [Nat.zero_add] at z2 z3)
      | (refine wpList_load_mid rfl 26 _ rfl _ _ rfl (ar s.sg) _ z2 Tryf.underlying26 rfl (by rw [hs.sg.ar]; exact size26) ?_)
      )
    refine (extra_any lo hi S s.sg b w2 HJ2.out hs.sg hb).mono ?_
    rintro e w3 ⟨rfl, b3⟩
    have hd' := good_xv HJ2.out s.sg
    go_wp2_with (first
      | (refine wpList_storeG rfl 26 _ _ rfl _ _ (ar ((S.xv s.sg).getD zs)) rfl rfl (by rw [hd'.ar]; exact there_eq (b3.block _ (by have := n2.size; omega)) n2.there) (by rw [hd'.ar]; exact size26) (ar_one _) ?_
         intro w4 s4))
    refine bodyPost_ret (results_cell2 rfl rfl (run_loadVar_mid _ _ _ _ (ar ((S.xv s.sg).getD zs)) _ s4.range Tryf.underlying26 rfl (by rw [hd'.ar]; exact size26))) rfl ?_
    have e1 := n1.size
    have e2 := n2.size
    refine ⟨by simp [St.get, e3, A], (below_of n1.grown (Nat.le_refl _) (by simp)).trans ((below_of n2.grown (by omega) (by simp)).trans ((b3.mono (by omega)).trans (below_of s4.grown (by have := b3.size; omega) (by simp; omega))))⟩
  · have hr3 : s.role < 3 := by omega
    have e3' : ((s.role : Int) == 3) = false := by simp; omega
    go_enter Tryf.func11, Tryf.ntmps11
    go_wp2_with (first
      | (refine wpList_boxG rfl 29 _ rfl s.cells rfl ?_
         intro w1 n1
         have HJ1 : Hid (J lo hi S w1) := HJ.out.grow n1.grown (by simp)
         have z1 := StepAt.of_range hs n1.range)
      | (refine wpList_allocG rfl 26 rfl (ar zs) zero26 ?_
         intro w2 n2
         have HJ2 : Hid (J lo hi S w2) := HJ1.out.grow n2.grown (by simp)
         have z2 := n2.grown.cell z1.idx (by simp)
         have z3 := n2.grown.cell z1.role (by simp)
         simp only [Nat.zero_add] at z2 z3)
      )
    refine (answer_any lo hi S s.role s.idx w2 HJ2.out hr3 hs.idx).mono ?_
    rintro e w3 ⟨rfl, b3⟩
    have hd' := good_ans HJ2.out s.role s.idx
    go_wp2_with (first
      | (refine wpList_storeG rfl 26 _ _ rfl _ _ (ar ((S.ans s.role s.idx).getD zs)) rfl rfl (by rw [hd'.ar]; exact there_eq (b3.block _ (by have := n2.size; omega)) n2.there) (by rw [hd'.ar]; exact size26) (ar_one _) ?_
         intro w4 s4))
    refine bodyPost_ret (results_cell2 rfl rfl (run_loadVar_mid _ _ _ _ (ar ((S.ans s.role s.idx).getD zs)) _ s4.range Tryf.underlying26 rfl (by rw [hd'.ar]; exact size26))) rfl ?_
    have e1 := n1.size
    have e2 := n2.size
    refine ⟨by simp [St.get, e3, A], (below_of n1.grown (Nat.le_refl _) (by simp)).trans ((below_of n2.grown (by omega) (by simp)).trans ((b3.mono (by omega)).trans (below_of s4.grown (by have := b3.size; omega) (by simp; omega))))⟩

end Go.Proofs.Qxb6618722aFmt
