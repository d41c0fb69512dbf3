/-
  Seat b6618722aF: FnKeepAnswerKeepsFirstRefusesOther: the walk.
-/
import Derived.Test.Qxb6618722aFmtPlain8
namespace Go.Proofs.Qxb6618722aFmt
open Go.RowKit Go.Maps Go.Extern.Stop Go.Stop Go.Extern
set_option linter.unusedVariables false
set_option maxRecDepth 4000

theorem below_dN8 {B : Nat} {w w' : World} (h : Below B w w') (n : Nat) : Below B w (w'.drewN n) := h.trans ⟨rfl, rfl, rfl, Nat.le_refl _, fun _ _ => rfl⟩
theorem rangeAt_gb8 {w w' : World} {b o : Nat} {cs : List Value} (g : Below w.heap.size w w') (h : w.rangeAt b o cs) : w'.rangeAt b o cs := fun j v hv => by
  have := h j v hv
  rw [cell_eq (g.block b (World.block_lt_of_cell? _ _ this))]
  exact this

theorem first_is (a : Option Addr) (n c b o : Nat) (st : List Step) (i : Nat) (t : Step) (w : World) (h : Sl w a n b o st) (hi : i < n) (hn : n ≤ 1024) (ht : st[i]? = some t) (hb : b < w.heap.size) :
    Calls Tryf.prog 10 #[.slice a n c, .int .i64 i] w fun e w' => e = .returned (.int .i64 (firstOf st t i)) ∧ Below w.heap.size w w' :=
  (first_any a n c b o st i t w h hi hn ht hb).mono fun e w' ⟨⟨f, he, hf⟩, hb'⟩ => ⟨by rw [he, first_unique hf (firstOf_is st t i)], hb'⟩

theorem wpQuiet_skip {P : Program} {ops : Array Oper} {C : World → Prop} {Q : Act → Prop} {a : Act} {o : Oper} {rest : List Oper} (hw : Region.wanted o (yielded ops a.tmps) = false) (h : wpQuiet P ops C Q rest (a.put o.dst undef)) : wpQuiet P ops C Q (o :: rest) a := by
  unfold wpQuiet
  rw [hw]
  exact h

theorem get_S0 (ext : List Int → Option Nat) (t : Step) : (S0 ext).get t = none := by
  unfold St.get S0
  split <;> rfl

theorem first_lt {st : List Step} {t : Step} {i : Nat} (ht : st[i]? = some t) : ∃ s, st[firstOf st t i]? = some s := by
  have hF := firstOf_is st t i
  by_cases h : firstOf st t i < i
  · obtain ⟨s, h1, _⟩ := hF.hit h
    exact ⟨s, h1⟩
  · have : firstOf st t i = i := by have := hF.le; omega
    exact ⟨t, by rw [this]; exact ht⟩

set_option maxHeartbeats 8000000 in
theorem law8 (F : Interp) (a : Option Addr) (n c b o : Nat) (st : List Step) (w : World) (hF : F.answers w.tape) (h : Sl w a n b o st) (hb : 0 < n → b < w.heap.size) :
    Calls Tryf.prog 3 #[.slice a n c] w fun e w' => e = .returned (.bool true) ∧ Below w.heap.size w w' := by
  have HS : Hid (Sl w a n b o st) := h
  clear h
  go_enter Tryf.func3, Tryf.ntmps3
  go_wp2_with fail
  refine (bytes6_any a n c w).mono ?_
  rintro e w9 ⟨⟨x, rfl⟩, hw9⟩
  obtain rfl := hw9.symm
  cases x with
  | false =>
    go_wp2_with fail
    go_ret
    exact ⟨rfl, Below.refl _ _⟩
  | true =>
    by_cases hn : n ≤ 1024
    · have hn' : ¬ (1024 : Int) < (n : Int) := by omega
      go_wp2_with fail
      refine (roles_any a n c b o st w HS.out (by omega)).mono ?_
      rintro e w9 ⟨hq, hw9⟩
      obtain rfl := hw9.symm
      rcases hq with rfl | ⟨rfl, hkn⟩
      · go_wp2_with fail
        go_ret
        exact ⟨rfl, Below.refl _ _⟩
      · have HKN : Hid (Known st n) := hkn
        clear hkn
        go_wp2_with fail
        refine (judgeFor_any a n c b o st w HS.out hn hb).mono ?_
        rintro e w1 ⟨rfl, ext, hB⟩
        have HB : Hid (B2 w.heap.size n st ext w w1) := hB
        clear hB
        go_wp2_with fail
        go_loopw [4] (fun v wr => ∃ k : Nat, k ≤ n ∧ v = .int .i64 k ∧ Hid (J w.heap.size w1.heap.size (runTo (S0 ext) st k) wr ∧ Below w.heap.size w wr)) (fun v _ => n - (intOf v).toNat)
        case atStart => exact ⟨0, by omega, rfl, HB.out.j, below_of HB.out.grown (Nat.le_refl _) (by simp)⟩
        case round =>
          obtain ⟨k, hk, rfl, HR⟩ := hrel
          by_cases hlt : k < n
          · have hlt' : (k : Int) < (n : Int) := by omega
            have HS2 : Hid (Sl wr a n b o st) := HS.out.grow (HR.out.2.block b (hb (by omega)))
            obtain ⟨s, hs1, hs2, hs3⟩ := HS2.out.at hlt
            have HA : Hid (a = some ⟨b, o, none⟩) := HS2.out.ad (by omega)
            go_wp2_with (first
              | (refine wpList_index22 rfl _ _ rfl a n c b o k rfl rfl HA.out hlt ?_)
              | (refine wpList_load_mid rfl 29 _ rfl _ _ rfl s.cells _ hs3 Tryf.underlying29 rfl (by rw [Step.len hs2]; exact size29) ?_)
              | (refine wpList_allocG rfl 29 rfl z29 zero29 ?_
                 intro w2 n2)
              | (refine wpList_storeG rfl 29 _ _ rfl _ _ s.cells rfl rfl (by rw [Step.len hs2]; exact n2.there) (by rw [Step.len hs2]; exact size29) (Step.one s) ?_
                 intro w3 s3
                 have zz := laid_step hs2 n2 s3
                 have z1 := zz.1.line
                 have z2 := zz.1.sg
                 have z3 := zz.1.role
                 have z4 := zz.1.idx
                 have z5 := zz.1.out
                 have HZ : Hid (Below wr.heap.size wr w3 ∧ w3.heap.size = wr.heap.size + 1) := zz.2
                 simp only [Nat.zero_add] at z2 z3 z4 z5
                 clear zz n2 s3)
              | (refine wpList_load_mid rfl 26 (.tmp 40) rfl _ _ rfl (ar s.sg) _ z2 Tryf.underlying26 rfl (by rw [hs2.sg.ar]; exact size26) ?_)
              | (refine wpList_load_mid rfl 26 (.tmp 46) rfl _ _ rfl (ar s.out) _ z5 Tryf.underlying26 rfl (by rw [hs2.out.ar]; exact size26) ?_))
            have q1 : ∀ r, (runTo (S0 ext) st k).cnt r ≤ 5000 := fun r => by
              have := runTo_cnt (S0 ext) st r k
              simp only [S0] at this ⊢
              omega
            refine (keep_any F w.heap.size w1.heap.size (runTo (S0 ext) st k) s w3 (by rw [HZ.out.1.tape, HR.out.2.tape]; exact hF) (HR.out.1.below HZ.out.1) hs2 (HKN.out k s hlt hs1) (fun h3 => by rw [runTo_ext]; exact HB.out.all k s hlt hs1 h3) q1).mono ?_
            rintro e w4 hkept
            have hhi : w1.heap.size ≤ wr.heap.size := HR.out.1.size
            have HO : Hid (w4.rangeAt wr.heap.size 35 (ar s.out)) := rangeAt_eq (hkept.2.block wr.heap.size (by rw [HZ.out.2]; omega) (Or.inr hhi)) z5
            have HB4 : Hid (Below w.heap.size w w4) := HR.out.2.trans ((HZ.out.1.mono HR.out.2.size).trans (fr_below hkept.2 (by have := HZ.out.1.size; have := HR.out.2.size; omega)))
            have HS4 : Hid (Sl w4 a n b o st) := HS.out.grow (HB4.out.block b (hb (by omega)))
            have HJ4 : Hid (J w.heap.size w1.heap.size (runTo (S0 ext) st (k + 1)) w4) := by
              rw [Hid, runTo_succ hs1]
              unfold St.step
              rcases hkept.1 with ⟨e1, _, e2⟩ | ⟨e1, _, e2⟩
              · rw [e1]; exact e2
              · rw [e1]; exact e2
            obtain ⟨sf, hsf⟩ := first_lt hs1
            have hsfo : sf.Ok := HS.out.ok sf (List.mem_of_getElem? hsf)
            have gsf := hsfo.out
            have hrf := refuse_first (get_S0 ext) (firstOf_is st s k) hsf
            have hfn : firstOf st s k < n := by have := (firstOf_is st s k).le; omega
            rcases hkept.1 with ⟨e1, ⟨p, rfl⟩, _⟩ | ⟨e1, rfl, _⟩
            · rw [hrf] at e1
              have hfk : firstOf st s k < k := by simpa using (Bool.and_eq_true_iff.1 e1).1
              have hne : (!decide (sf.out = s.out)) = true := (Bool.and_eq_true_iff.1 e1).2
              have hfk' : ((firstOf st s k : Nat) : Int) < (k : Int) := by omega
              have HNE : Hid (true = !decide (sf.out = s.out)) := hne.symm
              clear hkept hs3 z1 z2 z3 z4 z5 q1 e1 hrf hne
              have ne := neqErr p
              go_wp2_with fail
              refine (first_is a n c b o st k s w4 HS4.out hlt hn hs1 (Nat.lt_of_lt_of_le (hb (by omega)) HB4.out.size)).mono ?_
              rintro e5 w5 ⟨rfl, b5⟩
              have HB5 : Hid (Below w.heap.size w w5) := HB4.out.trans (b5.mono HB4.out.size)
              have HJ5 : Hid (J w.heap.size w1.heap.size (runTo (S0 ext) st (k + 1)) w5) := HJ4.out.below b5
              have x7 := rangeAt_gb8 b5 HO.out
              have x6 : w5.rangeAt b (o + 67 * firstOf st s k + 35) (ar sf.out) := rangeAt_gb8 b5 (StepAt.of_range hsfo (HS4.out.cells _ _ hsf)).out
              clear b5 HO HJ4 HB4 HS4
              generalize firstOf st s k = f at *
              have k6 : ∀ w', (∃ n, w' = w5.drewN n) → _ := fun w' ⟨n, e⟩ => e ▸ load26 gsf (rangeAt_drewN x6 n)
              have k7 : ∀ w', (∃ n, w' = w5.drewN n) → _ := fun w' ⟨n, e⟩ => e ▸ load26 hs2.out (rangeAt_drewN x7 n)
              go_wp2_with fail
              refine wp_region_quiet_lit (by kernel_rfl) (by kernel_rfl) ?_
              repeat (first
                | (refine wpQuiet_index22 rfl (.tmp 56) (.tmp 57) rfl a n c b o f rfl rfl HA.out hfn ?_)
                | (refine wpQuiet_load rfl 26 (.tmp 59) rfl _ _ rfl _ k6 ?_)
                | (refine wpQuiet_load rfl 26 (.tmp 61) rfl _ _ rfl _ k7 ?_)
                | (refine wpQuiet_neq26 rfl (.tmp 60) (.tmp 62) _ rfl gsf hs2.out rfl rfl true HNE.out ?_)
                | quiet_step (fail))
              refine wpQuiet_nil ?_
              rintro _ ⟨nq, rfl⟩
              clear k6 k7
              go_wp2
              go_roundw
              case rel => exact ⟨k + 1, by omega, by go_num, HJ5.out.drewN _, below_dN8 HB5.out _⟩
              case measure => simp [intOf]; omega
            · rw [hrf] at e1
              clear hkept hs3 z1 z2 z3 z4 z5 q1 hrf
              by_cases hfk : firstOf st s k < k
              · have hne : (!decide (sf.out = s.out)) = false := by simpa [hfk] using e1
                have hfk' : ((firstOf st s k : Nat) : Int) < (k : Int) := by omega
                have HNE : Hid (false = !decide (sf.out = s.out)) := hne.symm
                clear e1 hne
                have ne := neqNil
                go_wp2_with fail
                refine (first_is a n c b o st k s w4 HS4.out hlt hn hs1 (Nat.lt_of_lt_of_le (hb (by omega)) HB4.out.size)).mono ?_
                rintro e5 w5 ⟨rfl, b5⟩
                have HB5 : Hid (Below w.heap.size w w5) := HB4.out.trans (b5.mono HB4.out.size)
                have HJ5 : Hid (J w.heap.size w1.heap.size (runTo (S0 ext) st (k + 1)) w5) := HJ4.out.below b5
                have x7 := rangeAt_gb8 b5 HO.out
                have x6 : w5.rangeAt b (o + 67 * firstOf st s k + 35) (ar sf.out) := rangeAt_gb8 b5 (StepAt.of_range hsfo (HS4.out.cells _ _ hsf)).out
                clear b5 HO HJ4 HB4 HS4
                generalize firstOf st s k = f at *
                have k6 : ∀ w', (∃ n, w' = w5.drewN n) → _ := fun w' ⟨n, e⟩ => e ▸ load26 gsf (rangeAt_drewN x6 n)
                have k7 : ∀ w', (∃ n, w' = w5.drewN n) → _ := fun w' ⟨n, e⟩ => e ▸ load26 hs2.out (rangeAt_drewN x7 n)
                go_wp2_with fail
                refine wp_region_quiet_lit (by kernel_rfl) (by kernel_rfl) ?_
                repeat (first
                  | (refine wpQuiet_index22 rfl (.tmp 56) (.tmp 57) rfl a n c b o f rfl rfl HA.out hfn ?_)
                  | (refine wpQuiet_load rfl 26 (.tmp 59) rfl _ _ rfl _ k6 ?_)
                  | (refine wpQuiet_load rfl 26 (.tmp 61) rfl _ _ rfl _ k7 ?_)
                  | (refine wpQuiet_neq26 rfl (.tmp 60) (.tmp 62) _ rfl gsf hs2.out rfl rfl false HNE.out ?_)
                  | quiet_step (fail))
                refine wpQuiet_nil ?_
                rintro _ ⟨nq, rfl⟩
                clear k6 k7
                go_wp2
                go_roundw
                case rel => exact ⟨k + 1, by omega, by go_num, HJ5.out.drewN _, below_dN8 HB5.out _⟩
                case measure => simp [intOf]; omega
              · have hfk' : ¬ ((firstOf st s k : Nat) : Int) < (k : Int) := by omega
                clear e1
                have ne := neqNil
                go_wp2_with fail
                refine (first_is a n c b o st k s w4 HS4.out hlt hn hs1 (Nat.lt_of_lt_of_le (hb (by omega)) HB4.out.size)).mono ?_
                rintro e5 w5 ⟨rfl, b5⟩
                have HB5 : Hid (Below w.heap.size w w5) := HB4.out.trans (b5.mono HB4.out.size)
                have HJ5 : Hid (J w.heap.size w1.heap.size (runTo (S0 ext) st (k + 1)) w5) := HJ4.out.below b5
                have x7 := rangeAt_gb8 b5 HO.out
                have x6 : w5.rangeAt b (o + 67 * firstOf st s k + 35) (ar sf.out) := rangeAt_gb8 b5 (StepAt.of_range hsfo (HS4.out.cells _ _ hsf)).out
                clear b5 HO HJ4 HB4 HS4
                generalize firstOf st s k = f at *
                have k6 : ∀ w', (∃ n, w' = w5.drewN n) → _ := fun w' ⟨n, e⟩ => e ▸ load26 gsf (rangeAt_drewN x6 n)
                have k7 : ∀ w', (∃ n, w' = w5.drewN n) → _ := fun w' ⟨n, e⟩ => e ▸ load26 hs2.out (rangeAt_drewN x7 n)
                go_wp2_with fail
                go_quiet (fail)
                clear k6 k7
                go_wp2
                go_roundw
                case rel => exact ⟨k + 1, by omega, by go_num, HJ5.out.drewN _, below_dN8 HB5.out _⟩
                case measure => simp [intOf]; omega
          · have hlt' : ¬ (k : Int) < (n : Int) := by omega
            have hkn : k = n := by omega
            subst hkn
            have HJm : Hid (J w.heap.size w1.heap.size (runTo (S0 ext) st k) wr) := HR.out.1
            have HBm : Hid (Below w.heap.size w wr) := HR.out.2
            have HG : Hid (∀ t, Good (((runTo (S0 ext) st k).get t).getD zs)) := fun t => good_get HR.out.1 t
            have HE : Hid (∀ (j : Nat) (s sf : Step), st[j]? = some s → st[firstOf st s j]? = some sf → (runTo (S0 ext) st k).get s = some sf.out) := fun j s sf hs hsf => by
              have := end_first (get_S0 ext) hs (firstOf_is st s j) hsf
              rw [HS.out.len] at this
              exact this
            have HX : Hid (∀ (j : Nat) (s : Step), j < k → st[j]? = some s → s.role ≤ 3 ∧ (s.role = 3 → (runTo (S0 ext) st k).ext s.sg ≠ none)) := fun j s hj hs => ⟨HKN.out j s hj hs, fun h3 => by rw [runTo_ext]; exact HB.out.all j s hj hs h3⟩
            have HC : Hid (∀ r, r < 3 → (runTo (S0 ext) st k).cnt r = cF st r k) := fun r hr => cnt_first (get_S0 ext) hr rfl k
            clear HR HKN HB
            generalize wr = wm at *
            generalize hhi : w1.heap.size = hi at *
            go_wp2_with fail
            go_loopw [9] (fun v wr => ∃ q : Nat, q ≤ k ∧ v = .int .i64 q ∧ Hid (Below wm.heap.size wm wr)) (fun v _ => k - (intOf v).toNat)
            case atStart => exact ⟨0, by omega, rfl, Below.refl _ _⟩
            case round =>
              obtain ⟨q, hq, rfl, HR⟩ := hrel
              by_cases hlt2 : q < k
              · have hlt2' : (q : Int) < (k : Int) := by omega
                have HBr : Hid (Below w.heap.size w wr) := HBm.out.trans (HR.out.mono HBm.out.size)
                have hbw : b < w.heap.size := hb (by omega)
                have HS2 : Hid (Sl wr a k b o st) := HS.out.grow (HBr.out.block b hbw)
                obtain ⟨s, hs1, hs2, _⟩ := HS2.out.at hlt2
                have HA : Hid (a = some ⟨b, o, none⟩) := HS2.out.ad (by omega)
                obtain ⟨sf, hsf⟩ := first_lt hs1
                have hsfo : sf.Ok := HS.out.ok sf (List.mem_of_getElem? hsf)
                have gsf := hsfo.out
                have hv1 := HE.out q s sf hs1 hsf
                have hfn : firstOf st s q < k := by have := (firstOf_is st s q).le; omega
                go_wp2_with fail
                refine (first_is a k c b o st q s wr HS2.out hlt2 hn hs1 (Nat.lt_of_lt_of_le hbw HBr.out.size)).mono ?_
                rintro e2 w2 ⟨rfl, b2⟩
                have HB2 : Hid (Below wm.heap.size wm w2) := HR.out.trans (b2.mono HR.out.size)
                have HS3 : Hid (Sl w2 a k b o st) := HS2.out.grow (b2.block b (Nat.lt_of_lt_of_le hbw HBr.out.size))
                have hs3 := HS3.out.cells q s hs1
                have HO : Hid (w2.rangeAt b (o + 67 * firstOf st s q + 35) (ar sf.out)) := (StepAt.of_range hsfo (HS3.out.cells _ _ hsf)).out
                have hkp := kept_any w.heap.size hi (runTo (S0 ext) st k) s w2 (HJm.out.below HB2.out) hs2 (HX.out q s hlt2 hs1).1 (HX.out q s hlt2 hs1).2
                rw [hv1] at hkp
                simp only [Option.getD_some, Option.isSome_some] at hkp
                have HKP : Hid (Calls Tryf.prog 11 #[.pointer (some ⟨w.heap.size + 2, 0, none⟩), StepV s] w2 fun e w' => e = .returned (.tuple #[A sf.out, .bool true]) ∧ Below w2.heap.size w2 w') := hkp
                clear hkp b2 HS2 HS3
                generalize firstOf st s q = f at *
                go_wp2_with (first
                  | (refine wpList_index22 rfl _ _ rfl a k c b o q rfl rfl HA.out hlt2 ?_)
                  | (refine wpList_load_mid rfl 29 _ rfl _ _ rfl s.cells _ hs3 Tryf.underlying29 rfl (by rw [Step.len hs2]; exact size29) ?_))
                refine HKP.out.mono ?_
                rintro e3 w3 ⟨rfl, b3⟩
                have HB3 : Hid (Below w2.heap.size w2 w3) := b3
                clear b3 hs3 HKP
                go_wp2_with (first
                  | (refine wpList_allocG rfl 26 rfl (ar zs) zero26 ?_
                     intro w4 n4)
                  | (refine wpList_storeG rfl 26 (.tmp 11) (.tmp 85) rfl _ _ (ar sf.out) rfl rfl (by rw [gsf.ar]; exact n4.there) (by rw [gsf.ar]; exact size26) (ar_one _) ?_
                     intro w5 s5
                     have HB4 : Hid (Below w2.heap.size w2 w5) := HB3.out.trans (((below_of n4.grown (Nat.le_refl _) (by simp)).trans (below_of s5.grown (by rw [n4.size]; omega) (by simp))).mono HB3.out.size)
                     have HB5 : Hid (Below wm.heap.size wm w5) := HB2.out.trans (HB4.out.mono HB2.out.size)
                     have x5 := s5.range
                     clear n4 s5))
                have x7 := rangeAt_gb8 HB4.out HO.out
                have k6 : ∀ w', (∃ n, w' = w5.drewN n) → _ := fun w' ⟨n, e⟩ => e ▸ load26 gsf (rangeAt_drewN x5 n)
                have k7 : ∀ w', (∃ n, w' = w5.drewN n) → _ := fun w' ⟨n, e⟩ => e ▸ load26 gsf (rangeAt_drewN x7 n)
                refine wp_region_quiet_lit (by kernel_rfl) (by kernel_rfl) ?_
                repeat (first
                  | (refine wpQuiet_load rfl 26 (.tmp 11) rfl _ _ rfl _ k6 ?_)
                  | (refine wpQuiet_index22 rfl (.tmp 91) (.tmp 92) rfl a k c b o f rfl rfl HA.out hfn ?_)
                  | (refine wpQuiet_load rfl 26 (.tmp 94) rfl _ _ rfl _ k7 ?_)
                  | (refine wpQuiet_neq26 rfl (.tmp 90) (.tmp 95) _ rfl gsf gsf rfl rfl false (by simp) ?_)
                  | quiet_step (fail))
                refine wpQuiet_nil ?_
                rintro _ ⟨nq, rfl⟩
                clear k6 k7
                go_wp2
                go_roundw
                case rel => exact ⟨q + 1, by omega, by go_num, below_dN8 HB5.out _⟩
                case measure => simp [intOf]; omega
              · have hlt2' : ¬ (q : Int) < (k : Int) := by omega
                have HJp : Hid (J w.heap.size hi (runTo (S0 ext) st k) wr) := HJm.out.below HR.out
                have HBp : Hid (Below w.heap.size w wr) := HBm.out.trans (HR.out.mono HBm.out.size)
                clear HR HJm HBm
                generalize wr = wp at *
                go_wp2_with fail
                go_loopw [13] (fun v wr => ∃ r : Nat, r ≤ 3 ∧ v = .int .u8 r ∧ Hid (Below wp.heap.size wp wr)) (fun v _ => 3 - (intOf v).toNat)
                case atStart => exact ⟨0, by omega, rfl, Below.refl _ _⟩
                case round =>
                  obtain ⟨r, hr, rfl, HR⟩ := hrel
                  by_cases hlt3 : r < 3
                  · have hlt3' : (r : Int) < 3 := by omega
                    go_wp2_with fail
                    go_loopw [14, 15] (fun vd v w' => ∃ q : Nat, q ≤ k ∧ v = .int .i64 q ∧ vd = .int .i64 (cF st r q : Nat) ∧ Hid (Below wp.heap.size wp w')) (fun _ v _ => k - (intOf v).toNat)
                    case atStart => exact ⟨0, by omega, rfl, rfl, HR⟩
                    case round =>
                      obtain ⟨q, hq, rfl, rfl, HQ⟩ := hrel
                      by_cases hlt4 : q < k
                      · have hlt4' : (q : Int) < (k : Int) := by omega
                        have HBr : Hid (Below w.heap.size w wr) := HBp.out.trans (HQ.out.mono HBp.out.size)
                        have hbw : b < w.heap.size := hb (by omega)
                        have HS2 : Hid (Sl wr a k b o st) := HS.out.grow (HBr.out.block b hbw)
                        obtain ⟨s, hs1, hs2, hs3⟩ := HS2.out.at hlt4
                        have HA : Hid (a = some ⟨b, o, none⟩) := HS2.out.ad (by omega)
                        have hbr : b < wr.heap.size := Nat.lt_of_lt_of_le hbw HBr.out.size
                        have z := (StepAt.of_range hs2 hs3).role
                        have HL5 : Hid (∀ W, Below wr.heap.size wr W → (Instr.loadAt 5 (.pointer (some ⟨b, o + 67 * q + 33, none⟩))).run Tryf.prog W = .ok (.int .u8 s.role) W) := fun W hW => by
                          have cc : W.cell? ⟨b, o + 67 * q + 33, none⟩ = some (.int .u8 s.role) := by rw [cell_eq (hW.block b hbr)]; exact z
                          go_simp
                        have HF1 : Hid (∀ W, Below wr.heap.size wr W → Calls Tryf.prog 10 #[.slice a k c, .int .i64 q] W fun e w' => e = .returned (.int .i64 (firstOf st s q)) ∧ Below wr.heap.size wr w') := fun W hW =>
                          (first_is a k c b o st q s W (HS2.out.grow (hW.block b hbr)) hlt4 hn hs1 (Nat.lt_of_lt_of_le hbr hW.size)).mono fun e w' ⟨he, hb'⟩ => ⟨he, hW.trans (hb'.mono hW.size)⟩
                        have hle := cF_le st r q
                        have hcf : cF st r (q + 1) = cF st r q + (if (decide (s.role = r) && decide (firstOf st s q = q)) then 1 else 0) := by rw [← newAt_eq hs1]; rfl
                        clear hs3 HS2
                        by_cases er : s.role = r
                        · have er' : ((s.role : Int) == (r : Int)) = true := by simp [er]
                          by_cases ef : firstOf st s q = q
                          · have ef' : (((firstOf st s q : Nat) : Int) == (q : Int)) = true := by simp [ef]
                            have HCf : Hid (cF st r (q + 1) = cF st r q + 1) := by rw [Hid, hcf]; simp [er, ef]
                            clear hcf er ef
                            go_wp2_with (first
                              | (refine wpList_index22 rfl _ _ rfl a k c b o q rfl rfl HA.out hlt4 ?_))
                            refine (HF1.out wr (Below.refl _ _)).mono ?_
                            rintro e2 w2 ⟨rfl, b2⟩
                            have HB2 : Hid (Below wp.heap.size wp w2) := HQ.out.trans (b2.mono HQ.out.size)
                            clear b2
                            go_wp2
                            go_roundw
                            case rel => exact ⟨q + 1, by omega, by go_num, by first | (rw [HCf.out]; done) | (rw [HCf.out]; have := cF_le st r q; go_num), HB2⟩
                            case measure => simp [intOf]; omega
                          · have ef' : (((firstOf st s q : Nat) : Int) == (q : Int)) = false := by simp; omega
                            have HCf : Hid (cF st r (q + 1) = cF st r q) := by rw [Hid, hcf]; simp [er, ef]
                            clear hcf er ef
                            go_wp2_with (first
                              | (refine wpList_index22 rfl _ _ rfl a k c b o q rfl rfl HA.out hlt4 ?_))
                            refine (HF1.out wr (Below.refl _ _)).mono ?_
                            rintro e2 w2 ⟨rfl, b2⟩
                            have HB2 : Hid (Below wp.heap.size wp w2) := HQ.out.trans (b2.mono HQ.out.size)
                            clear b2
                            go_wp2
                            go_roundw
                            case rel => exact ⟨q + 1, by omega, by go_num, by first | (rw [HCf.out]; done) | (rw [HCf.out]; have := cF_le st r q; go_num), HB2⟩
                            case measure => simp [intOf]; omega
                        · have er' : ((s.role : Int) == (r : Int)) = false := by simp; omega
                          have HCf : Hid (cF st r (q + 1) = cF st r q) := by rw [Hid, hcf]; simp [er]
                          clear hcf er
                          have HB2 : Hid (Below wp.heap.size wp wr) := HQ
                          go_wp2_with (first
                            | (refine wpList_index22 rfl _ _ rfl a k c b o q rfl rfl HA.out hlt4 ?_))
                          go_roundw
                          case rel => exact ⟨q + 1, by omega, by go_num, by first | (rw [HCf.out]; done) | (rw [HCf.out]; have := cF_le st r q; go_num), HB2⟩
                          case measure => simp [intOf]; omega
                      · have hlt4' : ¬ (q : Int) < (k : Int) := by omega
                        have hqk : q = k := by omega
                        subst hqk
                        have HCr := HC.out r hlt3
                        have hce : (((runTo (S0 ext) st q).cnt r : Nat) : Int) = ((cF st r q : Nat) : Int) := by rw [HCr]
                        go_wp2_with fail
                        refine (count_any w.heap.size hi (runTo (S0 ext) st q) r wr (HJp.out.below HQ.out) hlt3).mono ?_
                        rintro e w9 ⟨rfl, hw9'⟩
                        obtain rfl := hw9'.symm
                        go_wp2
                        go_roundw
                        case rel => exact ⟨r + 1, by omega, by go_num, HQ⟩
                        case measure => simp [intOf]; omega
                  · have hlt3' : ¬ (r : Int) < 3 := by omega
                    go_wp2
                    go_ret
                    exact ⟨rfl, HBp.out.trans (HR.out.mono HBp.out.size)⟩
    · have hn' : (1024 : Int) < (n : Int) := by omega
      go_wp2_with fail
      go_ret
      exact ⟨rfl, Below.refl _ _⟩

end Go.Proofs.Qxb6618722aFmt
