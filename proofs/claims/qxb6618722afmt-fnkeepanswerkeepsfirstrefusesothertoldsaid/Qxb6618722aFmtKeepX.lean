/-
  Seat b6618722aF: (*judge).keepAnswer at an extra verifier's answer.
-/
import Derived.Test.Qxb6618722aFmtKeep
namespace Go.Proofs.Qxb6618722aFmt
open Go.RowKit Go.Maps Go.Extern.Stop Go.Stop Go.Extern
set_option linter.unusedVariables false
set_option maxRecDepth 4000

/-- The message in memory. -/
structure MsgAt (w : World) (b r : Nat) (i : Int) (out : List Int) : Prop where
  role : w.cell? ⟨b, 0, none⟩ = some (.int .u8 r)
  idx : w.cell? ⟨b, 33, none⟩ = some (.int .u32 i)
  out : w.rangeAt b 68 (ar out)
theorem MsgAt.grow {w w' : World} {b r : Nat} {i : Int} {out : List Int} (h : MsgAt w b r i out) (e : w'.heap[b]? = w.heap[b]?) : MsgAt w' b r i out :=
  ⟨by rw [cell_eq e]; exact h.role, by rw [cell_eq e]; exact h.idx, rangeAt_eq e h.out⟩
theorem MsgAt.lt {w : World} {b r : Nat} {i : Int} {out : List Int} (h : MsgAt w b r i out) : b < w.heap.size := World.block_lt_of_cell? _ _ h.role

/-- The line in memory. -/
structure LineAt (w : World) (b : Nat) (n : Int) (sg : List Int) : Prop where
  n : w.cell? ⟨b, 0, none⟩ = some (.int .i64 n)
  sg : w.rangeAt b 1 (ar sg)
theorem LineAt.of_range {w : World} {b : Nat} {n : Int} {sg : List Int} (h : w.rangeAt b 0 (c60 n sg)) : LineAt w b n sg := by
  refine ⟨by simpa using h 0 _ rfl, fun j v hv => ?_⟩
  have hj : j < (ar sg).length := (List.getElem?_eq_some_iff.1 hv).1
  have := h (1 + j) v (by simp only [c60, c54]; rw [Nat.add_comm 1 j, List.getElem?_cons_succ, List.append_assoc, List.getElem?_append_left hj]; exact hv)
  rw [← this]; congr 2; omega

theorem there_sub {w : World} {b o n : Nat} (h : w.there b o n) (o' n' : Nat) (h1 : o ≤ o') (h2 : o' + n' ≤ o + n) : w.there b o' n' := fun j hj => by
  have := h (o' - o + j) (by omega)
  rw [show o + (o' - o + j) = o' + j from by omega] at this
  exact this

/-- An error is handed back. -/
def IsErr (e : Ending) : Prop := ∃ p, e = .returned (.iface 96 (.pointer (some p)))
/-- What keepAnswer does. -/
def Kept (lo hi : Nat) (S S' : St) (rf : Bool) (w : World) (e : Ending) (w' : World) : Prop :=
  ((rf = true ∧ IsErr e ∧ J lo hi S w') ∨ (rf = false ∧ e = .returned .nilIface ∧ J lo hi S' w')) ∧ Fr lo hi w w'

theorem wpQuiet_neq63 {ops : Array Oper} {C : World → Prop} {Q : Act → Prop} {a : Act} {o : Oper} {rest : List Oper} (hw : Region.wanted o (yielded ops a.tmps) = true) (x y : Operand) (t : TypeId) (ho : o.op = .binOp .neq 63 x y t) {d d' : List Int} (hd : Good d) (hd' : Good d') (hx : a.eval x = A d) (hy : a.eval y = A d') (r : Bool) (hr : r = !decide (d = d'))
    (h : wpQuiet Tryf.prog ops C Q rest (a.put o.dst (.bool r))) : wpQuiet Tryf.prog ops C Q (o :: rest) a :=
  wpQuiet_value hw _ (fun w _ => by unfold execOp; simp only [hr, ho, hx, hy, Sem.run_bind, guard63, neq63 hd hd', Result.andThen_ok, Sem.run_pure]) h
theorem wpQuiet_neq26 {ops : Array Oper} {C : World → Prop} {Q : Act → Prop} {a : Act} {o : Oper} {rest : List Oper} (hw : Region.wanted o (yielded ops a.tmps) = true) (x y : Operand) (t : TypeId) (ho : o.op = .binOp .neq 26 x y t) {d d' : List Int} (hd : Good d) (hd' : Good d') (hx : a.eval x = A d) (hy : a.eval y = A d') (r : Bool) (hr : r = !decide (d = d'))
    (h : wpQuiet Tryf.prog ops C Q rest (a.put o.dst (.bool r))) : wpQuiet Tryf.prog ops C Q (o :: rest) a :=
  wpQuiet_value hw _ (fun w _ => by unfold execOp; simp only [hr, ho, hx, hy, Sem.run_bind, guard26, neq26 hd hd', Result.andThen_ok, Sem.run_pure]) h

def refX (S : St) (sg out : List Int) : Bool :=
  match S.xv sg with
  | none => false
  | some d => !decide (d = out)

set_option maxHeartbeats 2000000 in
theorem keepX_any (F : Interp) (lo hi : Nat) (S : St) (n : Int) (sg : List Int) (i : Int) (out : List Int) (mb b : Nat) (w : World) (hF : F.answers w.tape) (h : J lo hi S w) (hg : Good sg) (ho : Good out) (hm : MsgAt w mb 3 i out) (hb : S.ext sg = some b) :
    Calls Tryf.prog 21 #[.pointer (some ⟨lo + 2, 0, none⟩), .agg (c60 n sg).toArray, .pointer (some ⟨mb, 0, none⟩)] w
      (Kept lo hi S (S.putX sg out) (refX S sg out) w) := by
  have HJ : Hid (J lo hi S w) := h
  have HM : Hid (MsgAt w mb 3 i out) := hm
  clear h hm
  go_enter Tryf.func21, Tryf.ntmps21
  go_wp2_with (first
    | (refine wpList_boxG rfl 60 _ rfl (c60 n sg) rfl ?_
       intro w1 n1
       have HJ1 : Hid (J lo hi S w1) := HJ.out.grow n1.grown (by simp)
       have HM1 : Hid (MsgAt w1 mb 3 i out) := HM.out.grow (n1.grown.block _ HM.out.lt (by simp))
       have HL1 : Hid (LineAt w1 w.heap.size n sg) := LineAt.of_range n1.range
       have m1 := HM1.out.role
       have k1 := HJ1.out.cX
       have k2 : ∀ n, _ := fun n => (HJ1.out.drewN n).lookX hg hb
       have k3 : ∀ w', (∃ n, w' = w1.drewN n) → _ := fun w' ⟨n, e⟩ => e ▸ load44 hg (rangeAt_drewN HL1.out.sg n)))
  refine wp_region_quiet_lit (by kernel_rfl) (by kernel_rfl) ?_
  repeat (first | (refine wpQuiet_load rfl 44 _ rfl _ _ rfl _ k3 ?_) | quiet_step (fail))
  refine wpQuiet_nil ?_
  rintro _ ⟨nq, rfl⟩
  clear k1 k2 k3
  go_wp2_with fail
  have HJ2 : Hid (J lo hi S (w1.drewN nq)) := HJ1.out.drewN nq
  have HM2 : Hid (MsgAt (w1.drewN nq) mb 3 i out) := HM1.out.grow rfl
  have HL2 : Hid (LineAt (w1.drewN nq) w.heap.size n sg) := ⟨HL1.out.n, rangeAt_drewN HL1.out.sg nq⟩
  have HF2 : Hid (Fr lo hi w (w1.drewN nq)) := (Fr.of_new n1.grown).trans ⟨rfl, rfl, rfl, Nat.le_refl _, fun _ _ _ => rfl⟩
  have hFt : F.answers (w1.drewN nq).tape := by
    have e : (w1.drewN nq).tape = w.tape := n1.grown.tape
    rw [e]; exact hF
  have hnb : b ≠ mb ∨ True := Or.inr trivial
  clear hnb n1 HJ1 HM1 HL1 m1 HJ HM
  generalize w1.drewN nq = w2 at *
  obtain ⟨x0, x1, x2, x3, x4⟩ := HJ2.out.ev sg b hg hb
  cases hxv : S.xv sg with
  | none =>
    rw [hxv] at x2 x3
    simp only [Option.isSome_none] at x2
    go_quiet (fail)
    have HJ3 : Hid (J lo hi S (w2.drewN nq)) := HJ2.out.drewN nq
    have HM3 : Hid (MsgAt (w2.drewN nq) mb 3 i out) := HM2.out.grow rfl
    have HL3 : Hid (LineAt (w2.drewN nq) w.heap.size n sg) := ⟨HL2.out.n, rangeAt_drewN HL2.out.sg nq⟩
    have HF3 : Hid (Fr lo hi w (w2.drewN nq)) := HF2.out.trans ⟨rfl, rfl, rfl, Nat.le_refl _, fun _ _ _ => rfl⟩
    have hFt3 : F.answers (w2.drewN nq).tape := hFt
    replace x2 : (w2.drewN nq).cell? ⟨b, 38, none⟩ = _ := x2
    replace x4 : (w2.drewN nq).there b 38 33 := there_drewN x4 nq
    clear HJ2 HM2 HL2 HF2 hFt x3
    generalize w2.drewN nq = w3 at *
    have hc38 := x2
    have ht38 : w3.frozen? ⟨b, 38, none⟩ = false := by have := (x4 0 (by omega)).2; simpa using this
    have l3 := HM3.out.out
    go_wp2_with (first
      | (refine wpList_load_mid rfl 63 _ rfl _ _ rfl (ar out) _ l3 Tryf.underlying63 rfl (by rw [ho.ar]; exact size63) ?_)
      | (refine wpList_storeG rfl 63 _ _ rfl _ _ (ar out) rfl rfl (by rw [ho.ar]; exact World.there_setCells (there_sub x4 39 32 (by omega) (by omega)) b 38 [.bool true]) (by rw [ho.ar]; exact size63) (ar_one _) ?_
         intro w4 s4))
    refine bodyPost_ret (results_tmp rfl _ _ _) rfl ?_
    have g4 : w3.grownBy w4 (some b) := (grown_setCell w3 b 38 (.bool true)).trans s4.grown
    have c4 : w4.cell? ⟨b, 38, none⟩ = some (.bool true) := by
      rw [s4.apart 38 (by omega)]
      exact World.cell?_setCell_same _ _ _ hc38
    have j4 := HJ3.out.putX hg ho hb g4 c4 s4.range (s4.there 38 33 (World.there_setCells x4 b 38 [.bool true]))
    exact ⟨Or.inr ⟨by simp [refX, hxv], rfl, j4⟩, HF3.out.trans (Fr.of_grown g4 (by simp; omega))⟩
  | some d =>
    rw [hxv] at x2 x3
    simp only [Option.isSome_some, Option.getD_some] at x2 x3
    have gd := HJ2.out.gX sg d hxv
    by_cases e : d = out
    · obtain rfl := e.symm
      have k4 : ∀ w', (∃ n, w' = w2.drewN n) → _ := fun w' ⟨n, e⟩ => e ▸ load63 gd (rangeAt_drewN x3 n)
      have k5 : ∀ w', (∃ n, w' = w2.drewN n) → _ := fun w' ⟨n, e⟩ => e ▸ load63 ho (rangeAt_drewN HM2.out.out n)
      refine wp_region_quiet_lit (by kernel_rfl) (by kernel_rfl) ?_
      repeat (first
        | (refine wpQuiet_load rfl 63 _ rfl _ _ rfl _ k4 ?_)
        | (refine wpQuiet_load rfl 63 _ rfl _ _ rfl _ k5 ?_)
        | (refine wpQuiet_neq63 rfl _ _ _ rfl gd ho rfl rfl false (by simp) ?_)
        | quiet_step (fail))
      refine wpQuiet_nil ?_
      rintro _ ⟨nq2, rfl⟩
      have HJ3 : Hid (J lo hi S (w2.drewN nq2)) := HJ2.out.drewN nq2
      have HM3 : Hid (MsgAt (w2.drewN nq2) mb 3 i out) := HM2.out.grow rfl
      have HL3 : Hid (LineAt (w2.drewN nq2) w.heap.size n sg) := ⟨HL2.out.n, rangeAt_drewN HL2.out.sg nq2⟩
      have HF3 : Hid (Fr lo hi w (w2.drewN nq2)) := HF2.out.trans ⟨rfl, rfl, rfl, Nat.le_refl _, fun _ _ _ => rfl⟩
      have hFt3 : F.answers (w2.drewN nq2).tape := hFt
      replace x2 : (w2.drewN nq2).cell? ⟨b, 38, none⟩ = _ := x2
      replace x4 : (w2.drewN nq2).there b 38 33 := there_drewN x4 nq2
      clear k4 k5 HJ2 HM2 HL2 HF2 hFt x3
      generalize w2.drewN nq2 = w3 at *
      have hc38 := x2
      have ht38 : w3.frozen? ⟨b, 38, none⟩ = false := by have := (x4 0 (by omega)).2; simpa using this
      have l3 := HM3.out.out
      go_wp2_with (first
        | (refine wpList_load_mid rfl 63 _ rfl _ _ rfl (ar out) _ l3 Tryf.underlying63 rfl (by rw [ho.ar]; exact size63) ?_)
        | (refine wpList_storeG rfl 63 _ _ rfl _ _ (ar out) rfl rfl (by rw [ho.ar]; exact World.there_setCells (there_sub x4 39 32 (by omega) (by omega)) b 38 [.bool true]) (by rw [ho.ar]; exact size63) (ar_one _) ?_
           intro w4 s4))
      refine bodyPost_ret (results_tmp rfl _ _ _) rfl ?_
      have g4 : w3.grownBy w4 (some b) := (grown_setCell w3 b 38 (.bool true)).trans s4.grown
      have c4 : w4.cell? ⟨b, 38, none⟩ = some (.bool true) := by
        rw [s4.apart 38 (by omega)]
        exact World.cell?_setCell_same _ _ _ hc38
      have j4 := HJ3.out.putX hg ho hb g4 c4 s4.range (s4.there 38 33 (World.there_setCells x4 b 38 [.bool true]))
      exact ⟨Or.inr ⟨by simp [refX, hxv], rfl, j4⟩, HF3.out.trans (Fr.of_grown g4 (by simp; omega))⟩
    · have hdec : (!decide (d = out)) = true := by simp [e]
      have k4 : ∀ w', (∃ n, w' = w2.drewN n) → _ := fun w' ⟨n, e⟩ => e ▸ load63 gd (rangeAt_drewN x3 n)
      have k5 : ∀ w', (∃ n, w' = w2.drewN n) → _ := fun w' ⟨n, e⟩ => e ▸ load63 ho (rangeAt_drewN HM2.out.out n)
      refine wp_region_quiet_lit (by kernel_rfl) (by kernel_rfl) ?_
      repeat (first
        | (refine wpQuiet_load rfl 63 _ rfl _ _ rfl _ k4 ?_)
        | (refine wpQuiet_load rfl 63 _ rfl _ _ rfl _ k5 ?_)
        | (refine wpQuiet_neq63 rfl _ _ _ rfl gd ho rfl rfl true hdec.symm ?_)
        | quiet_step (fail))
      refine wpQuiet_nil ?_
      rintro _ ⟨nq2, rfl⟩
      have HJ3 : Hid (J lo hi S (w2.drewN nq2)) := HJ2.out.drewN nq2
      have HM3 : Hid (MsgAt (w2.drewN nq2) mb 3 i out) := HM2.out.grow rfl
      have HL3 : Hid (LineAt (w2.drewN nq2) w.heap.size n sg) := ⟨HL2.out.n, rangeAt_drewN HL2.out.sg nq2⟩
      have HF3 : Hid (Fr lo hi w (w2.drewN nq2)) := HF2.out.trans ⟨rfl, rfl, rfl, Nat.le_refl _, fun _ _ _ => rfl⟩
      have hFt3 : F.answers (w2.drewN nq2).tape := hFt
      replace x2 : (w2.drewN nq2).cell? ⟨b, 38, none⟩ = _ := x2
      replace x4 : (w2.drewN nq2).there b 38 33 := there_drewN x4 nq2
      clear k4 k5 HJ2 HM2 HL2 HF2 hFt x3
      generalize w2.drewN nq2 = w3 at *
      have l1 := HL3.out.n
      have l2 := HL3.out.sg
      go_wp2_with (first
        | (refine wpList_load_mid rfl 44 _ rfl _ _ rfl (ar sg) _ l2 Tryf.underlying44 rfl (by rw [hg.ar]; exact size44) ?_))
      have hv : (w3.alloc (Obj.cells #[Value.iface 44 (Value.agg (ar sg).toArray)] 20)).cell? ⟨w3.heap.size, 0, none⟩ = some (.iface 44 (A sg)) := by
        rw [cell_of_row _ _ _ _ _ _ (heap_alloc_new w3 _)]
        rfl
      refine (invalidX_any F n w3.heap.size sg (w3.alloc (Obj.cells #[Value.iface 44 (Value.agg (ar sg).toArray)] 20)) (by exact hFt3) hg hv).mono ?_
      rintro e9 w5 ⟨⟨p, rfl⟩, hb5⟩
      have HB : Hid (Below w3.heap.size w3 w5) := ((Below.refl _ w3).alloc (Nat.le_refl _) _).trans (hb5.mono (by simp))
      clear hb5 hv
      go_wp2
      refine bodyPost_ret (results_tmp rfl _ _ _) rfl ?_
      have hs3 := HJ3.out.size
      exact ⟨Or.inl ⟨by simp [refX, hxv, e], ⟨p, rfl⟩, HJ3.out.keep HB.out.size (fun k _ hk => HB.out.block k (by omega))⟩, HF3.out.trans (Fr.of_below HB.out)⟩

end Go.Proofs.Qxb6618722aFmt
