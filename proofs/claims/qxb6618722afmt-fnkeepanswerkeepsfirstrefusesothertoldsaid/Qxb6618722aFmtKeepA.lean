/-
  Seat b6618722aF: (*judge).keepAnswer at a worker's answer.
-/
import Derived.Test.Qxb6618722aFmtKeepX
namespace Go.Proofs.Qxb6618722aFmt
open Go.RowKit Go.Maps Go.Extern.Stop Go.Stop Go.Extern
set_option linter.unusedVariables false
set_option maxRecDepth 4000

def refA (S : St) (r : Nat) (i : Int) (out : List Int) : Bool :=
  match S.ans r i with
  | none => false
  | some d => !decide (d = out)

theorem J.below {lo hi : Nat} {S : St} {w w' : World} (h : J lo hi S w) (b : Below w.heap.size w w') : J lo hi S w' :=
  h.keep b.size (fun k _ hk => b.block k (Nat.lt_of_lt_of_le hk h.size))
theorem MsgAt.below {w w' : World} {b r : Nat} {i : Int} {out : List Int} (h : MsgAt w b r i out) (g : Below w.heap.size w w') : MsgAt w' b r i out := h.grow (g.block b h.lt)
theorem below_drew {B : Nat} {w w' : World} (h : Below B w w') : Below B w w'.drew := h.trans ⟨rfl, rfl, rfl, Nat.le_refl _, fun _ _ => rfl⟩
theorem below_set {w w' : World} (h : Below w.heap.size w w') (b o : Nat) (cs : List Value) (hb : w.heap.size ≤ b) : Below w.heap.size w (w'.setCells b o cs) :=
  h.trans (below_of (grown_setCells b cs o w') h.size (by simp; omega))
theorem there_new (w : World) (cs : List Value) (t : TypeId) : (w.alloc (.cells cs.toArray t)).drew.there w.heap.size 0 cs.length := there_eq (w := w.alloc (.cells cs.toArray t)) rfl (new_alloc w cs t).there

/-- What the last store reads. -/
def RS (lo r mb : Nat) (i : Int) (out : List Int) (N : Nat) (W : World) : Prop :=
  W.cell? ⟨lo + 2, 39, none⟩ = some (.map (some lo)) ∧ (∃ n f, Mp Tryf.prog 62 W lo n f ∧ ∀ r : Nat, r < 3 → f (.int .u8 r) = some (.map (some (lo + 3 + r)))) ∧ MsgAt W mb r i out ∧ ∃ n' f', n' ≤ N + 1 ∧ Mp Tryf.prog 27 W (lo + 3 + r) n' f'
theorem RS.of_blocks {lo r mb : Nat} {i : Int} {out : List Int} {N : Nat} {W W' : World} (h : RS lo r mb i out N W) (e1 : W'.heap[lo + 2]? = W.heap[lo + 2]?) (e2 : W'.heap[lo]? = W.heap[lo]?) (e3 : W'.heap[mb]? = W.heap[mb]?) (e4 : W'.heap[lo + 3 + r]? = W.heap[lo + 3 + r]?) : RS lo r mb i out N W' := by
  obtain ⟨q1, ⟨n, f, q2, q3⟩, q4, n', f', q5, q6⟩ := h
  exact ⟨by rw [cell_eq e1]; exact q1, ⟨n, f, q2.of_block e2, q3⟩, q4.grow e3, n', f', q5, q6.of_block e4⟩

set_option maxHeartbeats 4000000 in
theorem keepA_any (F : Interp) (lo hi : Nat) (S : St) (n : Int) (sg : List Int) (r : Nat) (i : Int) (out : List Int) (mb : Nat) (w : World) (hF : F.answers w.tape) (h : J lo hi S w) (ho : Good out) (hr : r < 3) (hi' : U32 i) (hm : MsgAt w mb r i out) (hmb : hi ≤ mb) (hcnt : S.cnt r ≤ 5000) :
    Calls Tryf.prog 21 #[.pointer (some ⟨lo + 2, 0, none⟩), .agg (c60 n sg).toArray, .pointer (some ⟨mb, 0, none⟩)] w
      (Kept lo hi S (S.putA r i out) (refA S r i out) w) := by
  have HJ : Hid (J lo hi S w) := h
  have HM : Hid (MsgAt w mb r i out) := hm
  have hr3 : ((r : Int) == 3) = false := by simp; omega
  have gd := good_ans h r i
  clear h hm
  go_enter Tryf.func21, Tryf.ntmps21
  go_upto_region 7 with (first
    | (refine wpList_boxG rfl 60 _ rfl (c60 n sg) rfl ?_
       intro w1 n1
       have HJ1 : Hid (J lo hi S w1) := HJ.out.grow n1.grown (by simp)
       have HM1 : Hid (MsgAt w1 mb r i out) := HM.out.grow (n1.grown.block _ HM.out.lt (by simp))
       have HL1 : Hid (w1.cell? ⟨w.heap.size, 0, none⟩ = some (.int .i64 n)) := (LineAt.of_range n1.range).n
       have m1 := HM1.out.role))
  have HB : Hid (Below w.heap.size w w1) := below_of n1.grown (Nat.le_refl _) (by simp)
  clear m1 n1
  have r1 : ∀ W, Below w1.heap.size w1 W → W.cell? ⟨lo + 2, 39, none⟩ = some (.map (some lo)) := fun W b => (HJ1.out.below b).cA
  have r2 : ∀ W, Below w1.heap.size w1 W → (Instr.lookup 79 (.map (some lo)) (.int .u8 r) false).run Tryf.prog W = .ok (.map (some (lo + 3 + r))) W := fun W b => (HJ1.out.below b).lookR hr
  have r3 : ∀ W, Below w1.heap.size w1 W → (Instr.lookup 71 (.map (some (lo + 3 + r))) (.int .u32 i) true).run Tryf.prog W = .ok (.tuple #[.agg (ar ((S.ans r i).getD zs)).toArray, .bool (S.ans r i).isSome]) W := fun W b => (HJ1.out.below b).lookI hr hi'
  have r4 : ∀ W, Below w1.heap.size w1 W → W.cell? ⟨mb, 0, none⟩ = some (.int .u8 r) := fun W b => (HM1.out.below b).role
  have r5 : ∀ W, Below w1.heap.size w1 W → W.cell? ⟨mb, 33, none⟩ = some (.int .u32 i) := fun W b => (HM1.out.below b).idx
  have b0 : Below w1.heap.size w1 w1 := Below.refl _ _
  have u63 := Tryf.underlying63
  have i63 : (Tryf.prog.info? 63).map (·.size) = some (ar ((S.ans r i).getD zs)).length := by rw [gd.ar]; exact size63
  have l32 : (ar ((S.ans r i).getD zs)).length = 32 := gd.ar
  have o1 := ar_one ((S.ans r i).getD zs)
  have hth : (w1.alloc (Obj.cells #[Value.int IntKind.u8 0, Value.int IntKind.u8 0, Value.int IntKind.u8 0, Value.int IntKind.u8 0, Value.int IntKind.u8 0, Value.int IntKind.u8 0, Value.int IntKind.u8 0, Value.int IntKind.u8 0, Value.int IntKind.u8 0, Value.int IntKind.u8 0, Value.int IntKind.u8 0, Value.int IntKind.u8 0, Value.int IntKind.u8 0, Value.int IntKind.u8 0, Value.int IntKind.u8 0, Value.int IntKind.u8 0, Value.int IntKind.u8 0, Value.int IntKind.u8 0, Value.int IntKind.u8 0, Value.int IntKind.u8 0, Value.int IntKind.u8 0, Value.int IntKind.u8 0, Value.int IntKind.u8 0, Value.int IntKind.u8 0, Value.int IntKind.u8 0, Value.int IntKind.u8 0, Value.int IntKind.u8 0, Value.int IntKind.u8 0, Value.int IntKind.u8 0, Value.int IntKind.u8 0, Value.int IntKind.u8 0, Value.int IntKind.u8 0] 63)).drew.there w1.heap.size 0 32 := there_new w1 (ar zs) 63
  go_cut [8, 9] (fun v8 v9 wc => v8 = .pointer (some ⟨w1.heap.size, 0, none⟩) ∧ v9 = .bool (S.ans r i).isSome ∧ Hid (Below w1.heap.size w1 wc ∧ wc.rangeAt w1.heap.size 0 (ar ((S.ans r i).getD zs))))
  case first =>
    go_region_held3 (fun W => Below w1.heap.size w1 W) (first
      | exact below_drew b0
      | exact below_drew (b0.alloc (Nat.le_refl _) _)
      | exact below_set (below_drew (b0.alloc (Nat.le_refl _) _)) _ _ _ (Nat.le_refl _)) (fail)
    all_goals
      go_wp2
      go_meet
      case rel =>
        refine ⟨rfl, rfl, by assumption, ?_⟩
        exact World.rangeAt_setCells_same _ _ _ _ (by rw [l32]; exact hth)
  case rest =>
    obtain ⟨rfl, rfl, hcb⟩ := hcut
    have HJ2 : Hid (J lo hi S wc) := HJ1.out.below hcb.out.1
    have HM2 : Hid (MsgAt wc mb r i out) := HM1.out.below hcb.out.1
    have HL2 : Hid (wc.cell? ⟨w.heap.size, 0, none⟩ = some (.int .i64 n)) := by
      rw [cell_eq (hcb.out.1.block w.heap.size (World.block_lt_of_cell? _ _ HL1.out))]; exact HL1.out
    have HF2 : Hid (Fr lo hi w wc) := (Fr.of_below HB.out).trans (Fr.of_below hcb.out.1)
    have HR2 : Hid (wc.rangeAt w1.heap.size 0 (ar ((S.ans r i).getD zs))) := hcb.out.2
    have hFt : F.answers wc.tape := by rw [HF2.out.tape]; exact hF
    clear hcb r1 r2 r3 r4 r5 b0 hth HJ1 HM1 HL1 HB HJ HM
    generalize wc = w2 at *
    go_upto_region 8 with (fail)
    go_cut [9, 83] (fun _ v wd => v = .bool (refA S r i out) ∧ ∃ m, wd = w2.drewN m)
    case first =>
      cases hxv : S.ans r i with
      | none =>
        simp only [Option.isSome_none]
        go_quiet (fail)
        go_wp2
        go_meet
        case rel => exact ⟨by simp [refA, hxv], _, rfl⟩
      | some d =>
        have gd' : Good d := HJ2.out.gA r i d hxv
        have hr2 := HR2.out
        rw [hxv] at hr2
        simp only [Option.isSome_some, Option.getD_some] at hr2 ⊢
        have k4 : ∀ w', (∃ n, w' = w2.drewN n) → _ := fun w' ⟨n, e⟩ => e ▸ load63 gd' (rangeAt_drewN hr2 n)
        have k5 : ∀ w', (∃ n, w' = w2.drewN n) → _ := fun w' ⟨n, e⟩ => e ▸ load63 ho (rangeAt_drewN HM2.out.out n)
        refine wp_region_quiet_lit (by kernel_rfl) (by kernel_rfl) ?_
        repeat (first
          | (refine wpQuiet_load rfl 63 _ rfl _ _ rfl _ k4 ?_)
          | (refine wpQuiet_load rfl 63 _ rfl _ _ rfl _ k5 ?_)
          | (refine wpQuiet_neq63 rfl _ _ _ rfl gd' ho rfl rfl (refA S r i out) (by simp [refA, hxv]) ?_)
          | quiet_step (fail))
        refine wpQuiet_nil ?_
        rintro _ ⟨nq2, rfl⟩
        go_wp2
        go_meet
        case rel => exact ⟨rfl, _, rfl⟩
    case rest =>
      obtain ⟨rfl, m, rfl⟩ := hcut
      have HJ3 : Hid (J lo hi S (w2.drewN m)) := HJ2.out.drewN m
      have HM3 : Hid (MsgAt (w2.drewN m) mb r i out) := HM2.out.grow rfl
      have HL3 : Hid ((w2.drewN m).cell? ⟨w.heap.size, 0, none⟩ = some (.int .i64 n)) := HL2.out
      have HF3 : Hid (Fr lo hi w (w2.drewN m)) := HF2.out.trans ⟨rfl, rfl, rfl, Nat.le_refl _, fun _ _ _ => rfl⟩
      have hFt3 : F.answers (w2.drewN m).tape := hFt
      clear HJ2 HM2 HL2 HF2 hFt HR2
      generalize w2.drewN m = w3 at *
      cases hrf : refA S r i out with
      | true =>
        have b0 : Below w3.heap.size w3 w3 := Below.refl _ _
        have r1 : ∀ W, Below w3.heap.size w3 W → W.cell? ⟨w.heap.size, 0, none⟩ = some (.int .i64 n) := fun W b => by
          rw [cell_eq (b.block w.heap.size (World.block_lt_of_cell? _ _ HL3.out))]; exact HL3.out
        have r4 : ∀ W, Below w3.heap.size w3 W → W.cell? ⟨mb, 0, none⟩ = some (.int .u8 r) := fun W b => (HM3.out.below b).role
        have r5 : ∀ W, Below w3.heap.size w3 W → W.cell? ⟨mb, 33, none⟩ = some (.int .u32 i) := fun W b => (HM3.out.below b).idx
        have HW : Hid ((w3.alloc (Obj.cells #[Value.iface 62 (Value.int IntKind.u8 ↑r), Value.iface 27 (Value.int IntKind.u32 i)] 20)).drew.cell? ⟨w3.heap.size, 0, none⟩ = some (.iface 62 (.int .u8 r)) ∧
            (w3.alloc (Obj.cells #[Value.iface 62 (Value.int IntKind.u8 ↑r), Value.iface 27 (Value.int IntKind.u32 i)] 20)).drew.cell? ⟨w3.heap.size, 1, none⟩ = some (.iface 27 (.int .u32 i)) ∧
            F.answers (w3.alloc (Obj.cells #[Value.iface 62 (Value.int IntKind.u8 ↑r), Value.iface 27 (Value.int IntKind.u32 i)] 20)).drew.tape ∧
            Below w3.heap.size w3 (w3.alloc (Obj.cells #[Value.iface 62 (Value.int IntKind.u8 ↑r), Value.iface 27 (Value.int IntKind.u32 i)] 20)).drew) :=
          ⟨by show (w3.alloc _).cell? _ = _; rw [cell_of_row _ _ _ _ _ _ (heap_alloc_new w3 _)]; rfl, by show (w3.alloc _).cell? _ = _; rw [cell_of_row _ _ _ _ _ _ (heap_alloc_new w3 _)]; rfl, hFt3, below_drew (b0.alloc (Nat.le_refl _) _)⟩
        go_wp2_with fail
        go_region_held3 (fun W => Below w3.heap.size w3 W) (first
          | assumption
          | exact below_drew b0
          | exact below_drew (b0.alloc (Nat.le_refl _) _)) ((go_at_call 29
                                                             refine (invalidR_any F n w3.heap.size r i _ HW.out.2.2.1 hr HW.out.1 HW.out.2.1).mono ?_
                                                             rintro e9 w5 ⟨⟨p, rfl⟩, hb5⟩
                                                             have hb6 : Below w3.heap.size w3 w5 := HW.out.2.2.2.trans (hb5.mono (by simp))
                                                             clear hb5))
        all_goals
          go_wp2
          refine bodyPost_ret (results_tmp rfl _ _ _) rfl ?_
          exact ⟨Or.inl ⟨by first | rfl | exact hrf, ⟨_, rfl⟩, HJ3.out.below (by assumption)⟩, HF3.out.trans (Fr.of_below (by assumption))⟩
      | false =>
        obtain ⟨f, hmp, hf⟩ := HJ3.out.rm r hr
        have HP0 : Hid (Mp Tryf.prog 27 w3 (lo + 3 + r) (S.cnt r) f) := hmp
        clear hmp
        have hlo := HJ3.out.lohi
        have HR0 : Hid (RS lo r mb i out (S.cnt r) w3) := ⟨HJ3.out.cA, HJ3.out.am, HM3.out, _, _, by omega, HP0.out⟩
        have r1 : ∀ W, RS lo r mb i out (S.cnt r) W → W.cell? ⟨lo + 2, 39, none⟩ = some (.map (some lo)) := fun W h => h.1
        have r2 : ∀ W, RS lo r mb i out (S.cnt r) W → (Instr.lookup 79 (.map (some lo)) (.int .u8 r) false).run Tryf.prog W = .ok (.map (some (lo + 3 + r))) W := fun W ⟨_, ⟨n, f, h1, h2⟩, _⟩ =>
          h1.look law62 Tryf.underlying79 (zero71 W) (keyOf_int_mk Tryf.underlying62 (wf62 hr)) (h2 r hr)
        have r4 : ∀ W, RS lo r mb i out (S.cnt r) W → W.cell? ⟨mb, 0, none⟩ = some (.int .u8 r) := fun W h => h.2.2.1.role
        have r5 : ∀ W, RS lo r mb i out (S.cnt r) W → W.cell? ⟨mb, 33, none⟩ = some (.int .u32 i) := fun W h => h.2.2.1.idx
        have kst : ∀ (W : World), RS lo r mb i out (S.cnt r) W → (Instr.mapUpdate 71 (.map (some (lo + 3 + r))) (.int .u32 i) (.agg (ar out).toArray)).run Tryf.prog W = .ok () (stw Tryf.prog 71 (lo + 3 + r) (.int .u32 i) (.agg (ar out).toArray) W) :=
          fun W ⟨_, _, _, n', f', h1, h2⟩ => (stw_spec h2 law27 Tryf.underlying71 (lt_maxLen (by omega)) (keyOf_int_mk Tryf.underlying27 (wf27 hi'))).1
        have HP : Hid (Put 27 w3.drew (stw Tryf.prog 71 (lo + 3 + r) (.int .u32 i) (.agg (ar out).toArray) w3.drew) (lo + 3 + r) (S.cnt r) f (.int .u32 i) (A out)) :=
          (stw_spec (w := w3.drew) (val := A out) (HP0.out.of_block (w' := w3.drew) rfl) law27 Tryf.underlying71 (lt_maxLen (by omega)) (keyOf_int_mk Tryf.underlying27 (wf27 hi'))).2
        have HS : Hid (RS lo r mb i out (S.cnt r) w3.drew ∧ w3.drew.rangeAt mb 68 (ar out)) := ⟨HR0.out.of_blocks rfl rfl rfl rfl, rangeAt_eq (w := w3) rfl HM3.out.out⟩
        have HS2 : Hid (RS lo r mb i out (S.cnt r) (stw Tryf.prog 71 (lo + 3 + r) (.int .u32 i) (.agg (ar out).toArray) w3.drew) ∧ (stw Tryf.prog 71 (lo + 3 + r) (.int .u32 i) (.agg (ar out).toArray) w3.drew).rangeAt mb 68 (ar out)) := by
          have g := HP.out.grown
          have hl := HM3.out.lt
          have hm : mb ≠ lo + 3 + r := fun e => by have := HJ3.out.size; omega
          obtain ⟨q1, ⟨n', f', q2, q3⟩, q4, _⟩ := HS.out.1
          exact ⟨⟨g.cell q1 (by simp; omega), ⟨n', f', q2.grow g (by simp; omega), q3⟩, q4.grow (g.block mb hl (by simp; exact hm)), mp_of_put HP.out⟩, rangeAt_grow g HS.out.2 (by simp; exact hm)⟩
        have l3 := HM3.out.out
        have u63 := Tryf.underlying63
        have i63 : (Tryf.prog.info? 63).map (·.size) = some (ar out).length := by rw [ho.ar]; exact size63
        have l32' : (ar out).length = 32 := ho.ar
        have o1' := ar_one out
        clear i63 l32 o1
        have i63 : (Tryf.prog.info? 63).map (·.size) = some (ar out).length := by rw [ho.ar]; exact size63
        go_wp2_with fail
        go_region_held3 (fun W => RS lo r mb i out (S.cnt r) W ∧ W.rangeAt mb 68 (ar out)) (first
          | exact HS.out
          | exact HS2.out) (fail)
        go_wp2
        refine bodyPost_ret (results_tmp rfl _ _ _) rfl ?_
        have j4 := (HJ3.out.keep (w' := w3.drew) (Nat.le_refl _) (fun _ _ _ => rfl)).putA hr hi' ho hf HP.out
        exact ⟨Or.inr ⟨hrf, rfl, j4⟩, HF3.out.trans ((Fr.of_below (below_drew (Below.refl _ w3))).trans (Fr.of_grown HP.out.grown (by simp; omega)))⟩

end Go.Proofs.Qxb6618722aFmt
