/-
  Seat b6618722aF: FnKeepAnswerReplayChangesNothing: the walk.
-/
import Derived.Test.Qxb6618722aFmtLaw7
namespace Go.Proofs.Qxb6618722aFmt
open Go.RowKit Go.Maps Go.Extern.Stop Go.Stop Go.Extern
set_option linter.unusedVariables false
set_option maxRecDepth 4000

theorem below_dN {B : Nat} {w w' : World} (h : Below B w w') (n : Nat) : Below B w (w'.drewN n) := h.trans ⟨rfl, rfl, rfl, Nat.le_refl _, fun _ _ => rfl⟩
theorem rangeAt_grow_below {w w' : World} {b o : Nat} {cs : List Value} (g : Below w.heap.size w w') (h : w.rangeAt b o cs) : w'.rangeAt b o cs := fun j v hv => by
  have := h j v hv
  rw [cell_eq (g.block b (World.block_lt_of_cell? _ _ this))]
  exact this

set_option maxHeartbeats 8000000 in
theorem law7 (F : Interp) (a : Option Addr) (n c b o : Nat) (st : List Step) (w : World) (hF : F.answers w.tape) (h : Sl w a n b o st) (hb : 0 < n → b < w.heap.size) :
    Calls Tryf.prog 4 #[.slice a n c] w fun e w' => e = .returned (.bool true) ∧ Below w.heap.size w w' := by
  have HS : Hid (Sl w a n b o st) := h
  clear h
  go_enter Tryf.func4, Tryf.ntmps4
  go_wp2_with fail
  refine (bytes13_any a n c w).mono ?_
  rintro e w9 ⟨⟨x, rfl⟩, hw9⟩
  obtain rfl := hw9.symm
  cases x with
  | false =>
    go_wp2_with fail
    go_ret
    exact ⟨rfl, Below.refl _ _⟩
  | true =>
    by_cases hn : n ≤ 1024
    · have hn' : ¬ (1024 : Int) < (n : Int) := by omega
      go_wp2_with fail
      refine (roles_any a n c b o st w HS.out (by omega)).mono ?_
      rintro e w9 ⟨hq, hw9⟩
      obtain rfl := hw9.symm
      rcases hq with rfl | ⟨rfl, hkn⟩
      · go_wp2_with fail
        go_ret
        exact ⟨rfl, Below.refl _ _⟩
      · have HKN : Hid (Known st n) := hkn
        clear hkn
        go_wp2_with fail
        refine (judgeFor_any a n c b o st w HS.out hn hb).mono ?_
        rintro e w1 ⟨rfl, ext, hB⟩
        have hmk := make37 n hn
        have HB : Hid (B2 w.heap.size n st ext w w1) := hB
        clear hB
        go_wp2_with fail
        clear hmk
        have HL : Hid (L1 w.heap.size w1.heap.size w1.heap.size n 0 (S0 ext) st w (w1.alloc (.cells (madeCells #[.bool false] n) 4))) :=
          ⟨HB.out.j.keep (by simp) (fun k _ hk => (World.grownBy_alloc w1 _ none).block k hk (by simp)), (World.rowIs_made w1 (.bool false) n 4).congr (fun j _ => by simp),
            (below_of HB.out.grown (Nat.le_refl _) (by simp)).trans (below_of (World.grownBy_alloc w1 _ none) HB.out.grown.size (by simp))⟩
        go_loopw [5] (fun v wr => ∃ k : Nat, k ≤ n ∧ v = .int .i64 k ∧ Hid (L1 w.heap.size w1.heap.size w1.heap.size n k (S0 ext) st w wr)) (fun v _ => n - (intOf v).toNat)
        case atStart => exact ⟨0, by omega, rfl, HL⟩
        case round =>
          obtain ⟨k, hk, rfl, HR⟩ := hrel
          clear HL
          by_cases hlt : k < n
          · have hlt' : (k : Int) < (n : Int) := by omega
            have HS2 : Hid (Sl wr a n b o st) := HS.out.grow (HR.out.below.block b (hb (by omega)))
            obtain ⟨s, hs1, hs2, hs3⟩ := HS2.out.at hlt
            have HA : Hid (a = some ⟨b, o, none⟩) := HS2.out.ad (by omega)
            go_wp2_with (first
              | (refine wpList_index22 rfl _ _ rfl a n c b o k rfl rfl HA.out hlt ?_)
              | (refine wpList_load_mid rfl 29 _ rfl _ _ rfl s.cells _ hs3 Tryf.underlying29 rfl (by rw [Step.len hs2]; exact size29) ?_)
              | (refine wpList_allocG rfl 29 rfl z29 zero29 ?_
                 intro w2 n2)
              | (refine wpList_storeG rfl 29 _ _ rfl _ _ s.cells rfl rfl (by rw [Step.len hs2]; exact n2.there) (by rw [Step.len hs2]; exact size29) (Step.one s) ?_
                 intro w3 s3
                 have zz := laid_step hs2 n2 s3
                 have z1 := zz.1.line
                 have z2 := zz.1.sg
                 have z3 := zz.1.role
                 have z4 := zz.1.idx
                 have z5 := zz.1.out
                 have HZ : Hid (Below wr.heap.size wr w3) := zz.2.1
                 simp only [Nat.zero_add] at z2 z3 z4 z5
                 clear zz n2 s3)
              | (refine wpList_load_mid rfl 26 (.tmp 49) rfl _ _ rfl (ar s.sg) _ z2 Tryf.underlying26 rfl (by rw [hs2.sg.ar]; exact size26) ?_)
              | (refine wpList_load_mid rfl 26 (.tmp 55) rfl _ _ rfl (ar s.out) _ z5 Tryf.underlying26 rfl (by rw [hs2.out.ar]; exact size26) ?_))
            have q1 : ∀ r, (runTo (S0 ext) st k).cnt r ≤ 5000 := fun r => by
              have := runTo_cnt (S0 ext) st r k
              simp only [S0] at this ⊢
              omega
            refine (keep_any F w.heap.size w1.heap.size (runTo (S0 ext) st k) s w3 (by rw [HZ.out.tape, HR.out.below.tape]; exact hF) (HR.out.j.below HZ.out) hs2 (HKN.out k s hlt hs1) (fun h3 => by rw [runTo_ext]; exact HB.out.all k s hlt hs1 h3) q1).mono ?_
            rintro e w4 hkept
            have HK : Hid (Kept w.heap.size w1.heap.size (runTo (S0 ext) st k) ((runTo (S0 ext) st k).put s) ((runTo (S0 ext) st k).refuse s) w3 e w4) := hkept
            have hrow4 : w4.rowIs w1.heap.size 4 n (fun j => .bool (decide (j < k) && rfAt (S0 ext) st j)) :=
              (HR.out.row.of_block (HZ.out.block _ HR.out.row.lt)).of_block (hkept.2.block _ (Nat.lt_of_lt_of_le HR.out.row.lt HZ.out.size) (Or.inr (Nat.le_refl _)))
            have c1 := hrow4.cell hlt
            have c2 := hrow4.frozen k
            have HN : Hid (L1 w.heap.size w1.heap.size w1.heap.size n (k + 1) (S0 ext) st w (w4.setCell ⟨w1.heap.size, k, none⟩ (.bool (rfAt (S0 ext) st k)))) := HR.out.step HZ.out hs1 hlt (Nat.le_refl _) hkept
            have hrf := rfAt_eq (S := S0 ext) hs1
            rcases hkept.1 with ⟨e1, ⟨p, rfl⟩, _⟩ | ⟨e1, rfl, _⟩
            · have HE : Hid (rfAt (S0 ext) st k = true) := by rw [hrf, e1]; rfl
              clear hkept hrow4 z1 z2 z3 z4 z5 hs3 HK q1 e1 hrf
              have ne := neqErr p
              go_wp2
              go_roundw
              case rel =>
                have := HN.out
                rw [HE.out] at this
                exact ⟨k + 1, by omega, by go_num, this⟩
              case measure => simp [intOf]; omega
            · have HE : Hid (rfAt (S0 ext) st k = false) := by rw [hrf, e1]; rfl
              clear hkept hrow4 z1 z2 z3 z4 z5 hs3 HK q1 e1 hrf
              have ne := neqNil
              go_wp2
              go_roundw
              case rel =>
                have := HN.out
                rw [HE.out] at this
                exact ⟨k + 1, by omega, by go_num, this⟩
              case measure => simp [intOf]; omega
          · have hlt' : ¬ (k : Int) < (n : Int) := by omega
            have hkn : k = n := by omega
            subst hkn
            have HJm : Hid (J w.heap.size w1.heap.size (runTo (S0 ext) st k) wr) := HR.out.j
            have HRm : Hid (wr.rowIs w1.heap.size 4 k (fun j => .bool (rfAt (S0 ext) st j))) := HR.out.row.congr (fun j hj => by simp [hj])
            have HBm : Hid (Below w.heap.size w wr) := HR.out.below
            have HG : Hid (∀ t, Good (((runTo (S0 ext) st k).get t).getD zs)) := fun t => good_get HR.out.j t
            have HE : Hid (∀ (j : Nat) (s : Step), st[j]? = some s → ∃ v, (runTo (S0 ext) st k).get s = some v ∧ rfAt (S0 ext) st j = !decide (v = s.out)) := fun j s hs => by
              have := end_get (S := S0 ext) hs
              rw [HS.out.len] at this
              exact this
            have HP : Hid (∀ (j : Nat) (s : Step), st[j]? = some s → (runTo (S0 ext) st k).refuse s = rfAt (S0 ext) st j ∧ (rfAt (S0 ext) st j = false → (runTo (S0 ext) st k).put s = runTo (S0 ext) st k)) := fun j s hs => by
              have := replay (S := S0 ext) hs
              rw [HS.out.len] at this
              exact this
            have HX : Hid (∀ (j : Nat) (s : Step), j < k → st[j]? = some s → s.role ≤ 3 ∧ (s.role = 3 → (runTo (S0 ext) st k).ext s.sg ≠ none)) := fun j s hj hs => ⟨HKN.out j s hj hs, fun h3 => by rw [runTo_ext]; exact HB.out.all j s hj hs h3⟩
            have HC : Hid (∀ r, (runTo (S0 ext) st k).cnt r ≤ 5000) := fun r => by
              have := runTo_cnt (S0 ext) st r k
              simp only [S0] at this ⊢
              omega
            clear HR HKN HB
            generalize wr = wm at *
            generalize hhi : w1.heap.size = hi at *
            have hmk := make38 k hn
            have hmk2 := make37 k hn
            go_wp2_with fail
            clear hmk hmk2
            have HL2 : Hid (L2 k 0 (runTo (S0 ext) st k) st wm ((wm.alloc (.cells (madeCells (ar zs).toArray (k * 32)) 26)).alloc (.cells (madeCells #[.bool false] k) 4))) := L2.start k _ st wm
            go_loopw [10] (fun v wr => ∃ i : Nat, i ≤ k ∧ v = .int .i64 i ∧ Hid (L2 k i (runTo (S0 ext) st k) st wm wr)) (fun v _ => k - (intOf v).toNat)
            case atStart => exact ⟨0, by omega, rfl, HL2⟩
            case round =>
              obtain ⟨i, hi2, rfl, HR⟩ := hrel
              clear HL2
              by_cases hlt2 : i < k
              · have hlt2' : (i : Int) < (k : Int) := by omega
                have HS2 : Hid (Sl wr a k b o st) := (HS.out.grow (HBm.out.block b (hb (by omega)))).grow (HR.out.below.block b (Nat.lt_of_lt_of_le (hb (by omega)) HBm.out.size))
                obtain ⟨s, hs1, hs2, hs3⟩ := HS2.out.at hlt2
                have HA : Hid (a = some ⟨b, o, none⟩) := HS2.out.ad (by omega)
                obtain ⟨v, hv1, hv2⟩ := HE.out i s hs1
                go_wp2_with (first
                  | (refine wpList_index22 rfl _ _ rfl a k c b o i rfl rfl HA.out hlt2 ?_)
                  | (refine wpList_load_mid rfl 29 _ rfl _ _ rfl s.cells _ hs3 Tryf.underlying29 rfl (by rw [Step.len hs2]; exact size29) ?_))
                have hkp := kept_any w.heap.size hi (runTo (S0 ext) st k) s wr (HJm.out.below HR.out.below) hs2 (HX.out i s hlt2 hs1).1 (HX.out i s hlt2 hs1).2
                rw [hv1] at hkp
                simp only [Option.getD_some, Option.isSome_some] at hkp
                refine hkp.mono ?_
                rintro e w3 ⟨rfl, b3⟩
                have gv : Good v := by have := HG.out s; rw [hv1] at this; exact this
                have HB3 : Hid (Below wr.heap.size wr w3) := b3
                clear b3 hkp hs3 HS2
                go_wp2_with (first
                  | (refine wpList_allocG rfl 26 rfl (ar zs) zero26 ?_
                     intro w4 n4)
                  | (refine wpList_storeG rfl 26 (.tmp 11) (.tmp 82) rfl _ _ (ar v) rfl rfl (by rw [gv.ar]; exact n4.there) (by rw [gv.ar]; exact size26) (ar_one _) ?_
                     intro w5 s5
                     have HB5 : Hid (Below wr.heap.size wr w5) := HB3.out.trans (((below_of n4.grown (Nat.le_refl _) (by simp)).trans (below_of s5.grown (by rw [n4.size]; omega) (by simp))).mono HB3.out.size)
                     have x5 := s5.range
                     have t5 : w5.there wm.heap.size (32 * i) 32 := there_sub (there_eq (HB5.out.block wm.heap.size (by have := HR.out.row.lt; omega)) HR.out.there) (32 * i) 32 (by omega) (by omega))
                  | (refine wpList_load_mid rfl 26 (.tmp 11) rfl _ _ rfl (ar v) _ x5 Tryf.underlying26 rfl (by rw [gv.ar]; exact size26) ?_)
                  | (refine wpList_index38 rfl _ _ rfl wm.heap.size k i rfl rfl hlt2 ?_)
                  | (refine wpList_storeG rfl 26 (.tmp 87) (.tmp 86) rfl _ _ (ar v) rfl rfl (by rw [gv.ar]; exact t5) (by rw [gv.ar]; exact size26) (ar_one _) ?_
                     intro w6 s6
                     have hrow6 : w6.rowIs (wm.heap.size + 1) 4 k (fun j => .bool (decide (j < i))) := (HR.out.row.of_block (HB5.out.block _ HR.out.row.lt)).of_block (s6.grown.block _ (Nat.lt_of_lt_of_le HR.out.row.lt HB5.out.size) (by simp))
                     have c6 := hrow6.cell hlt2
                     have f6 := hrow6.frozen i
                     have HN : Hid (L2 k (i + 1) (runTo (S0 ext) st k) st wm (w6.setCell ⟨wm.heap.size + 1, i, none⟩ (.bool true))) := HR.out.step HB5.out hs1 HG.out hlt2 (by rw [hv1]; exact s6)
                     clear hrow6 x5 t5 s6 s5 n4))
                go_roundw
                case rel => exact ⟨i + 1, by omega, by go_num, HN⟩
                case measure => simp [intOf]; omega
              · have hlt2' : ¬ (i : Int) < (k : Int) := by omega
                have hik : i = k := by omega
                subst hik
                have HAr : Hid (Arr hi wm.heap.size i (S0 ext) (runTo (S0 ext) st i) st wr) := HR.out.done HS.out.len HRm.out HJm.out.size
                have HJp : Hid (J w.heap.size hi (runTo (S0 ext) st i) wr) := HJm.out.below HR.out.below
                have HBp : Hid (Below w.heap.size w wr) := HBm.out.trans (HR.out.below.mono HBm.out.size)
                clear HR HJm HRm HBm
                generalize wr = wp at *
                generalize hkb : wm.heap.size = kb at *
                go_wp2_with fail
                have HL3 : Hid (L3 0 (runTo (S0 ext) st i) wp (wp.alloc (.cells #[.int .i64 0, .int .i64 0, .int .i64 0] 39))) := L3.start _ wp
                go_loopw [14] (fun v wr => ∃ r : Nat, r ≤ 3 ∧ v = .int .u8 r ∧ Hid (L3 r (runTo (S0 ext) st i) wp wr)) (fun v _ => 3 - (intOf v).toNat)
                case atStart => exact ⟨0, by omega, rfl, HL3⟩
                case round =>
                  obtain ⟨r, hr, rfl, HR⟩ := hrel
                  clear HL3
                  by_cases hlt3 : r < 3
                  · have hlt3' : (r : Int) < 3 := by omega
                    go_wp2_with fail
                    refine (count_any w.heap.size hi (runTo (S0 ext) st i) r wr (HJp.out.below HR.out.below) hlt3).mono ?_
                    rintro e w9 ⟨rfl, hw9⟩
                    obtain rfl := hw9.symm
                    have c1 := HR.out.row.cell hlt3
                    have c2 := HR.out.row.frozen r
                    have HN : Hid (L3 (r + 1) (runTo (S0 ext) st i) wp (wr.setCell ⟨wp.heap.size, r, none⟩ (.int .i64 ((runTo (S0 ext) st i).cnt r)))) := HR.out.step hlt3
                    go_wp2
                    go_roundw
                    case rel => exact ⟨r + 1, by omega, by go_num, HN⟩
                    case measure => simp [intOf]; omega
                  · have hlt3' : ¬ (r : Int) < 3 := by omega
                    have hr3 : r = 3 := by omega
                    have HCn : Hid (wr.rowIs wp.heap.size 39 3 (fun q => .int .i64 ((runTo (S0 ext) st i).cnt q))) := HR.out.row.congr (fun q hq => by rw [if_pos (by omega)])
                    have HAq : Hid (Arr hi kb i (S0 ext) (runTo (S0 ext) st i) st wr) := HAr.out.below HR.out.below
                    have HJq : Hid (J w.heap.size hi (runTo (S0 ext) st i) wr) := HJp.out.below HR.out.below
                    have HBq : Hid (Below w.heap.size w wr) := HBp.out.trans (HR.out.below.mono HBp.out.size)
                    have hcb : hi ≤ wp.heap.size := HJp.out.size
                    clear HR HAr HJp HBp hr3 hr
                    generalize wr = wq at *
                    generalize hcbe : wp.heap.size = cb at *
                    go_wp2_with fail
                    go_loopw [15] (fun v wr => ∃ k : Nat, k ≤ i ∧ v = .int .i64 k ∧ Hid (J w.heap.size hi (runTo (S0 ext) st i) wr ∧ Fr w.heap.size hi wq wr)) (fun v _ => i - (intOf v).toNat)
                    case atStart => exact ⟨0, by omega, rfl, HJq.out, Fr.refl _ _ _⟩
                    case round =>
                      obtain ⟨k, hk4, rfl, HR⟩ := hrel
                      by_cases hlt4 : k < i
                      · have hlt4' : (k : Int) < (i : Int) := by omega
                        have HBw : Hid (Below w.heap.size w wr) := HBq.out.trans (fr_below HR.out.2 HBq.out.size)
                        have HS2 : Hid (Sl wr a i b o st) := HS.out.grow (HBw.out.block b (hb (by omega)))
                        obtain ⟨s, hs1, hs2, hs3⟩ := HS2.out.at hlt4
                        have HA : Hid (a = some ⟨b, o, none⟩) := HS2.out.ad (by omega)
                        go_wp2_with (first
                          | (refine wpList_index22 rfl _ _ rfl a i c b o k rfl rfl HA.out hlt4 ?_)
                          | (refine wpList_load_mid rfl 29 _ rfl _ _ rfl s.cells _ hs3 Tryf.underlying29 rfl (by rw [Step.len hs2]; exact size29) ?_)
                          | (refine wpList_allocG rfl 29 rfl z29 zero29 ?_
                             intro w2 n2)
                          | (refine wpList_storeG rfl 29 _ _ rfl _ _ s.cells rfl rfl (by rw [Step.len hs2]; exact n2.there) (by rw [Step.len hs2]; exact size29) (Step.one s) ?_
                             intro w3 s3
                             have zz := laid_step hs2 n2 s3
                             have z1 := zz.1.line
                             have z2 := zz.1.sg
                             have z3 := zz.1.role
                             have z4 := zz.1.idx
                             have z5 := zz.1.out
                             have HZ : Hid (Below wr.heap.size wr w3) := zz.2.1
                             simp only [Nat.zero_add] at z2 z3 z4 z5
                             clear zz n2 s3)
                          | (refine wpList_load_mid rfl 26 (.tmp 114) rfl _ _ rfl (ar s.sg) _ z2 Tryf.underlying26 rfl (by rw [hs2.sg.ar]; exact size26) ?_)
                          | (refine wpList_load_mid rfl 26 (.tmp 120) rfl _ _ rfl (ar s.out) _ z5 Tryf.underlying26 rfl (by rw [hs2.out.ar]; exact size26) ?_))
                        refine (keep_any F w.heap.size hi (runTo (S0 ext) st i) s w3 (by rw [HZ.out.tape, HBw.out.tape]; exact hF) (HR.out.1.below HZ.out) hs2 (HX.out k s hlt4 hs1).1 (HX.out k s hlt4 hs1).2 HC.out).mono ?_
                        rintro e w4 hkept
                        have HF4 : Hid (Fr w.heap.size hi wq w4) := HR.out.2.trans ((Fr.of_below HZ.out).trans hkept.2)
                        have c1 := (HAq.out.fr HF4.out).rf.cell hlt4
                        obtain ⟨p1, p2⟩ := HP.out k s hs1
                        rcases hkept.1 with ⟨e1, ⟨p, rfl⟩, e2⟩ | ⟨e1, rfl, e2⟩
                        · rw [p1] at e1
                          rw [e1] at c1
                          have HN : Hid (J w.heap.size hi (runTo (S0 ext) st i) w4) := e2
                          clear hkept z1 z2 z3 z4 z5 hs3 e1 e2 p1 p2
                          have ne := neqErr p
                          go_wp2_with fail
                          go_quiet (fail)
                          go_wp2
                          go_roundw
                          case rel => exact ⟨k + 1, by omega, by go_num, HN.out.drewN _, HF4.out.trans ⟨rfl, rfl, rfl, Nat.le_refl _, fun _ _ _ => rfl⟩⟩
                          case measure => simp [intOf]; omega
                        · rw [p1] at e1
                          rw [e1] at c1
                          rw [p2 e1] at e2
                          have HN : Hid (J w.heap.size hi (runTo (S0 ext) st i) w4) := e2
                          clear hkept z1 z2 z3 z4 z5 hs3 e1 e2 p1 p2
                          have ne := neqNil
                          go_wp2_with fail
                          go_quiet (fail)
                          go_wp2
                          go_roundw
                          case rel => exact ⟨k + 1, by omega, by go_num, HN.out.drewN _, HF4.out.trans ⟨rfl, rfl, rfl, Nat.le_refl _, fun _ _ _ => rfl⟩⟩
                          case measure => simp [intOf]; omega
                      · have hlt4' : ¬ (k : Int) < (i : Int) := by omega
                        have HCw : Hid (wr.rowIs cb 39 3 (fun q => .int .i64 ((runTo (S0 ext) st i).cnt q))) := HCn.out.of_block (HR.out.2.block cb HCn.out.lt (Or.inr hcb))
                        have HAw : Hid (Arr hi kb i (S0 ext) (runTo (S0 ext) st i) st wr) := HAq.out.fr HR.out.2
                        have HJw : Hid (J w.heap.size hi (runTo (S0 ext) st i) wr) := HR.out.1
                        have HBw : Hid (Below w.heap.size w wr) := HBq.out.trans (fr_below HR.out.2 HBq.out.size)
                        clear HR HCn HAq HJq HBq
                        generalize wr = ws at *
                        go_wp2_with fail
                        go_loopw [18] (fun v wr => ∃ k : Nat, k ≤ i ∧ v = .int .i64 k ∧ Hid (Below ws.heap.size ws wr)) (fun v _ => i - (intOf v).toNat)
                        case atStart => exact ⟨0, by omega, rfl, Below.refl _ _⟩
                        case round =>
                          obtain ⟨k, hk5, rfl, HR⟩ := hrel
                          by_cases hlt5 : k < i
                          · have hlt5' : (k : Int) < (i : Int) := by omega
                            have HBr : Hid (Below w.heap.size w wr) := HBw.out.trans (HR.out.mono HBw.out.size)
                            have HS2 : Hid (Sl wr a i b o st) := HS.out.grow (HBr.out.block b (hb (by omega)))
                            obtain ⟨s, hs1, hs2, hs3⟩ := HS2.out.at hlt5
                            have HA : Hid (a = some ⟨b, o, none⟩) := HS2.out.ad (by omega)
                            obtain ⟨v, hv1, hv2⟩ := HE.out k s hs1
                            have gv : Good v := by have := HG.out s; rw [hv1] at this; exact this
                            go_wp2_with (first
                              | (refine wpList_index22 rfl _ _ rfl a i c b o k rfl rfl HA.out hlt5 ?_)
                              | (refine wpList_load_mid rfl 29 _ rfl _ _ rfl s.cells _ hs3 Tryf.underlying29 rfl (by rw [Step.len hs2]; exact size29) ?_))
                            have hkp := kept_any w.heap.size hi (runTo (S0 ext) st i) s wr (HJw.out.below HR.out) hs2 (HX.out k s hlt5 hs1).1 (HX.out k s hlt5 hs1).2
                            rw [hv1] at hkp
                            simp only [Option.getD_some, Option.isSome_some] at hkp
                            refine hkp.mono ?_
                            rintro e w3 ⟨rfl, b3⟩
                            have HB3 : Hid (Below wr.heap.size wr w3) := b3
                            have HS3 : Hid (w3.rangeAt b (o + 67 * k + 35) (ar s.out)) := rangeAt_eq (b3.block b (Nat.lt_of_lt_of_le (hb (by omega)) HBr.out.size)) (StepAt.of_range hs2 hs3).out
                            clear b3 hkp hs3 HS2
                            go_wp2_with (first
                              | (refine wpList_allocG rfl 26 rfl (ar zs) zero26 ?_
                                 intro w4 n4)
                              | (refine wpList_storeG rfl 26 (.tmp 19) (.tmp 143) rfl _ _ (ar v) rfl rfl (by rw [gv.ar]; exact n4.there) (by rw [gv.ar]; exact size26) (ar_one _) ?_
                                 intro w5 s5
                                 have HB4 : Hid (Below w3.heap.size w3 w5) := (below_of n4.grown (Nat.le_refl _) (by simp)).trans (below_of s5.grown (by rw [n4.size]; omega) (by simp))
                                 have HB5 : Hid (Below ws.heap.size ws w5) := HR.out.trans ((HB3.out.trans (HB4.out.mono HB3.out.size)).mono HR.out.size)
                                 have x5 := s5.range
                                 clear n4 s5))
                            have HA5 : Hid (Arr hi kb i (S0 ext) (runTo (S0 ext) st i) st w5) := HAw.out.below HB5.out
                            have x6 := HA5.out.kp k s hs1
                            rw [hv1] at x6
                            simp only [Option.getD_some] at x6
                            have x7 : w5.rangeAt b (o + 67 * k + 35) (ar s.out) := rangeAt_grow_below HB4.out HS3.out
                            have c1 := HA5.out.pr.cell hlt5
                            have c2 := HA5.out.rf.cell hlt5
                            have k6 : ∀ w', (∃ n, w' = w5.drewN n) → _ := fun w' ⟨n, e⟩ => e ▸ load26 gv (rangeAt_drewN x5 n)
                            have k7 : ∀ w', (∃ n, w' = w5.drewN n) → _ := fun w' ⟨n, e⟩ => e ▸ load26 gv (rangeAt_drewN x6 n)
                            refine wp_region_quiet_lit (by kernel_rfl) (by kernel_rfl) ?_
                            repeat (first
                              | (refine wpQuiet_load rfl 26 (.tmp 19) rfl _ _ rfl _ k6 ?_)
                              | (refine wpQuiet_index38 rfl _ _ rfl kb i k rfl rfl hlt5 ?_)
                              | (refine wpQuiet_load rfl 26 (.tmp 155) rfl _ _ rfl _ k7 ?_)
                              | (refine wpQuiet_neq26 rfl (.tmp 152) (.tmp 156) _ rfl gv gv rfl rfl false (by simp) ?_)
                              | quiet_step (fail))
                            refine wpQuiet_nil ?_
                            rintro _ ⟨nq, rfl⟩
                            have HB6 : Hid (Below ws.heap.size ws (w5.drewN nq)) := below_dN HB5.out nq
                            replace x5 : (w5.drewN nq).rangeAt w3.heap.size 0 (ar v) := rangeAt_drewN x5 nq
                            replace x7 : (w5.drewN nq).rangeAt b (o + 67 * k + 35) (ar s.out) := rangeAt_drewN x7 nq
                            replace c2 : (w5.drewN nq).cell? ⟨hi, k, none⟩ = some (.bool (rfAt (S0 ext) st k)) := c2
                            clear k6 k7 x6 c1 HA5 HB5 HB4 HB3 HS3
                            generalize w5.drewN nq = w6 at *
                            go_wp2_with fail
                            have k6 : ∀ w', (∃ n, w' = w6.drewN n) → _ := fun w' ⟨n, e⟩ => e ▸ load26 gv (rangeAt_drewN x5 n)
                            have k8 : ∀ w', (∃ n, w' = w6.drewN n) → _ := fun w' ⟨n, e⟩ => e ▸ load26 hs2.out (rangeAt_drewN x7 n)
                            cases hrf : rfAt (S0 ext) st k with
                            | true =>
                              rw [hrf] at c2
                              go_quiet (fail)
                              go_wp2
                              go_roundw
                              case rel => exact ⟨k + 1, by omega, by go_num, below_dN HB6.out _⟩
                              case measure => simp [intOf]; omega
                            | false =>
                              rw [hrf] at c2 hv2
                              have HV : Hid (false = !decide (v = s.out)) := hv2
                              clear hv2
                              refine wp_region_quiet_lit (by kernel_rfl) (by kernel_rfl) ?_
                              repeat (first
                                | (refine wpQuiet_load rfl 26 (.tmp 19) rfl _ _ rfl _ k6 ?_)
                                | (refine wpQuiet_index22 rfl _ _ rfl a i c b o k rfl rfl HA.out hlt5 ?_)
                                | (refine wpQuiet_load rfl 26 (.tmp 172) rfl _ _ rfl _ k8 ?_)
                                | (refine wpQuiet_neq26 rfl (.tmp 168) (.tmp 173) _ rfl gv hs2.out rfl rfl false HV.out ?_)
                                | quiet_step (fail))
                              refine wpQuiet_nil ?_
                              rintro _ ⟨nq3, rfl⟩
                              go_wp2
                              go_roundw
                              case rel => exact ⟨k + 1, by omega, by go_num, below_dN HB6.out _⟩
                              case measure => simp [intOf]; omega
                          · have hlt5' : ¬ (k : Int) < (i : Int) := by omega
                            have HBr : Hid (Below w.heap.size w wr) := HBw.out.trans (HR.out.mono HBw.out.size)
                            have HJr : Hid (J w.heap.size hi (runTo (S0 ext) st i) wr) := HJw.out.below HR.out
                            have HCr : Hid (wr.rowIs cb 39 3 (fun q => .int .i64 ((runTo (S0 ext) st i).cnt q))) := HCw.out.of_block (HR.out.block cb HCw.out.lt)
                            clear HR HAw HJw HBw HCw
                            generalize wr = wt at *
                            go_wp2_with fail
                            go_loopw [21] (fun v wr => ∃ r : Nat, r ≤ 3 ∧ v = .int .u8 r ∧ Hid (Below wt.heap.size wt wr)) (fun v _ => 3 - (intOf v).toNat)
                            case atStart => exact ⟨0, by omega, rfl, Below.refl _ _⟩
                            case round =>
                              obtain ⟨r, hr6, rfl, HR⟩ := hrel
                              by_cases hlt6 : r < 3
                              · have hlt6' : (r : Int) < 3 := by omega
                                have c3 := (HCr.out.of_block (HR.out.block cb HCr.out.lt)).cell hlt6
                                go_wp2_with fail
                                go_quiet (first
                                  | (go_at_call 12
                                     refine Calls.quiet_of_same (count_any w.heap.size hi (runTo (S0 ext) st i) r _ ?_ hlt6)
                                     exact (HJr.out.below HR.out).drewN _))
                                go_wp2
                                go_roundw
                                case rel => exact ⟨r + 1, by omega, by go_num, below_dN HR.out _⟩
                                case measure => simp [intOf]; omega
                              · have hlt6' : ¬ (r : Int) < 3 := by omega
                                go_wp2
                                go_ret
                                exact ⟨rfl, HBr.out.trans (HR.out.mono HBr.out.size)⟩
    · have hn' : (1024 : Int) < (n : Int) := by omega
      go_wp2_with fail
      go_ret
      exact ⟨rfl, Below.refl _ _⟩

end Go.Proofs.Qxb6618722aFmt
