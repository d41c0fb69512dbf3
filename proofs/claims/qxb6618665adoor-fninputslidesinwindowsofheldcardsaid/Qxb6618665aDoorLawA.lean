/-
  FnInputEOFWhenDataShorterThanDoubledRoom: the law's own walk.
-/
import Derived.Test.Qxb6618665aDoorPlainA
namespace Go.Proofs.Qxb6618665aDoor
open Go.RowKit
set_option linter.unusedVariables false

section
variable (a : Option Addr) (n c : Nat) (x y : Int) (w : World)

theorem lawA_big1 (hn : 1048576 < n) (hm : n ≤ maxLen) : Calls Tryd.prog 3 #[.slice a n c, .int .i64 x, .int .i64 y] w fun e w' => e = .returned (.bool true) ∧ w' = w := by
  unfold maxLen at hm
  go_enter Tryd.func3, Tryd.ntmps3
  go_wp2
  go_ret
  exact ⟨rfl, rfl⟩

theorem lawA_big2 (hn : n ≤ 1048576) (hn2 : 65536 < n) : Calls Tryd.prog 3 #[.slice a n c, .int .i64 x, .int .i64 y] w fun e w' => e = .returned (.bool true) ∧ w' = w := by
  go_enter Tryd.func3, Tryd.ntmps3
  go_wp2_with (go_at_call 5; refine (bytes_ok _ _ _ _ _ _ hn).mono ?_; rintro e w' ⟨rfl, rfl⟩)
  go_ret
  exact ⟨rfl, rfl⟩

theorem lawA_held (hn : n ≤ 65536) (hx : 65536 < x) : Calls Tryd.prog 3 #[.slice a n c, .int .i64 x, .int .i64 y] w fun e w' => e = .returned (.bool true) ∧ w' = w := by
  go_enter Tryd.func3, Tryd.ntmps3
  go_wp2_with (go_at_call 5; refine (bytes_ok _ _ _ _ _ _ (by omega)).mono ?_; rintro e w' ⟨rfl, rfl⟩)
  go_ret
  exact ⟨rfl, rfl⟩

theorem lawA_neg (hn : n ≤ 65536) (hx : ¬ 65536 < x) (hy : y < 0) : Calls Tryd.prog 3 #[.slice a n c, .int .i64 x, .int .i64 y] w fun e w' => e = .returned (.bool true) ∧ w' = w := by
  go_enter Tryd.func3, Tryd.ntmps3
  go_wp2_with (go_at_call 5; refine (bytes_ok _ _ _ _ _ _ (by omega)).mono ?_; rintro e w' ⟨rfl, rfl⟩)
  go_ret
  exact ⟨rfl, rfl⟩

theorem lawA_over (hn : n ≤ 65536) (hx : ¬ 65536 < x) (hy : ¬ y < 0) (hy2 : 64 < y) : Calls Tryd.prog 3 #[.slice a n c, .int .i64 x, .int .i64 y] w fun e w' => e = .returned (.bool true) ∧ w' = w := by
  go_enter Tryd.func3, Tryd.ntmps3
  go_wp2_with (go_at_call 5; refine (bytes_ok _ _ _ _ _ _ (by omega)).mono ?_; rintro e w' ⟨rfl, rfl⟩)
  go_ret
  exact ⟨rfl, rfl⟩
end

theorem below_draws {B : Nat} {w w' : World} {k : Nat} (h : Below B w w') : Below B w (w'.drewN k) := ⟨h.os, h.tape, h.output, h.size, h.block⟩

theorem Env.grown {w w' : World} {B : Nat} {a0 a1 : Addr} (h : Env w B a0 a1) (hg : w.grownBy w' none) : Env w' w'.heap.size a0 a1 := by
  have f : Fr [] w w' := ⟨hg.os, hg.tape, hg.output, hg.size, fun k hk _ => hg.block k hk (by simp)⟩
  have h' := h.fr f (by simp)
  have := h'.le
  exact ⟨h'.e0, h'.e1, h'.ne, h'.r0, h'.r1, by have := h'.two; omega, by have := h'.b0; omega, by have := h'.b1; omega, Nat.le_refl _⟩

theorem Made.lt {w w' : World} {a : Option Addr} (h : Made w w' a) : ∀ x, a = some x → x.block < w'.heap.size := by
  intro x hx
  rcases h with rfl | ⟨rfl, h⟩
  · cases hx
  · cases hx; exact h

theorem below_done {B : Nat} {w w' : World} {i rb g : Nat} (h : Fr [i, rb, g] w w') (h1 : B ≤ i) (h2 : B ≤ rb) (h3 : B ≤ g) (hB : B ≤ w.heap.size) : Below B w w' :=
  ⟨h.os, h.tape, h.output, h.size, fun k hk => h.block k (by omega) (by simp; omega)⟩

theorem buf_sb {w : World} {g : Nat} {ys : List Int} (h : BufIs w g ys) (L : Nat) : SB w (some ⟨g, 0, none⟩) (ys.take L) := by
  refine SB.take (.inr ⟨g, 0, rfl, fun k hk => ?_⟩) L
  have hb' : w.heap[g]? = some (.cells (ys.map (Value.int .u8)).toArray 5 (0, 0)) := h
  rw [cell_at hb', Nat.zero_add]
  simp [List.getD, List.getElem?_eq_getElem hk]

theorem sb_draws {w : World} {a : Option Addr} {zs : List Int} {k : Nat} (h : SB w a zs) : SB (w.drewN k) a zs := h

set_option maxHeartbeats 2000000 in
theorem lawA_main (a : Option Addr) (n c k : Nat) (held : Int) (zs : List Int) (B : Nat) (a0 a1 : Addr) (w : World) (hz : zs.length = n) (hnil : a = none → n = 0 ∧ c = 0) (hn : n ≤ 65536) (hh : held ≤ 65536) (hk : k ≤ 64) (hS : SB w a zs) (hE : Env w B a0 a1) :
    Calls Tryd.prog 3 #[.slice a n c, .int .i64 held, .int .i64 k] w fun e w' => e = .returned (.bool true) ∧ Below w.heap.size w w' := by
  have e1 : decide ((65536 : Int) < (n : Int)) = false := by simp; omega
  have e2 : decide ((k : Int) < 0) = false := by simp
  have e3 : decide ((64 : Int) < (k : Int)) = false := by simp; omega
  have e4 : decide ((65536 : Int) < held) = false := by simp; omega
  go_enter Tryd.func3, Tryd.ntmps3
  go_wp2_with (go_at_call 5; refine (bytes_ok _ _ _ _ _ _ (by omega)).mono ?_; rintro e w' ⟨rfl, rfl⟩)
  refine (clone_any a n c zs _ hz (by omega) hnil hS).mono ?_
  rintro e w1 ⟨d1, rfl, hS1, hg1, ha1, hn1⟩
  go_wp2_with fail
  refine (clone_any d1 n n zs _ hz (by omega) (fun h => ⟨hn1 h, hn1 h⟩) hS1).mono ?_
  rintro e w2 ⟨fa, rfl, hS2, hg2, ha2, hn2⟩
  go_wp2_with fail
  refine (new_any held fa n zs w2.heap.size a0 a1 w2 hh hz hn ((hE.grown hg1).grown hg2) hS2 rfl ha2.lt).mono ?_
  rintro e w3 ⟨rfl, hst, hb3⟩
  have hT3 : SB w3 d1 zs := by
    rcases hS1 with h | ⟨b, o, rfl, hc⟩
    · exact .inl h
    · exact .inr ⟨b, o, rfl, fun i hi => by
        have := hg2.cell (hc i hi) (by simp)
        rw [hb3.cell (World.block_lt_of_cell? _ _ this)]; exact this⟩
  have hr : 1 ≤ room held ∧ room held ≤ 65536 := by unfold room; split <;> omega
  have hlt1 : ∀ x, d1 = some x → x.block < w2.heap.size := fun x hx => Nat.lt_of_lt_of_le (ha1.lt x hx) hg2.size
  have hb2 : Below w'.heap.size w' w2 := ((Below.refl _ w').grown hg1 (Nat.le_refl _) (by simp)).grown hg2 (by have := hg1.size; omega) (by simp)
  have HI : Hid (InvA w3 w2.heap.size a0 a1 (w2.heap.size + 2) w2.heap.size (w2.heap.size + 1) 0 (room held) n fa zs (zeroRow (room held)) ∧ SB w3 d1 zs ∧ zs.length = n ∧ (∀ x, d1 = some x → x.block < w2.heap.size) ∧ Below w'.heap.size w' w2 ∧ w'.heap.size ≤ w2.heap.size ∧ 1 ≤ room held ∧ room held ≤ 65536 ∧ Below w2.heap.size w2 w3) :=
    ⟨⟨hst, zeroRow_length _, by simp [hl]⟩, hT3, hz, hlt1, hb2, hb2.size, hr.1, hr.2, hb3⟩
  clear hst hT3 hlt1 hb2 hr hS1 hS2 hg1 hg2 ha1 ha2 hn1 hn2 hS hE hz hb3
  generalize hi : w2.heap.size + 2 = ib at *
  generalize hr0 : room held = r at *
  have HR : Hid (room held = r) := hr0
  clear hr0
  go_wp2
  go_loopw [9] (fun v wr => ∃ (j : Nat) (g : Nat) (ys : List Int), j ≤ k ∧ v = .int .i64 j ∧ InvA wr w2.heap.size a0 a1 ib w2.heap.size g j r n fa zs ys ∧ Below w2.heap.size w3 wr) (fun v _ => k - (intOf v).toNat)
  case atStart => exact ⟨0, _, _, Nat.zero_le _, rfl, HI.out.1, Below.refl _ _⟩
  case round =>
    obtain ⟨j, g, ys, hj, rfl, hI, hbl⟩ := hrel
    by_cases hlt : j < k
    · obtain ⟨C', e1', e2', e3', e4', e5'⟩ := step_nums r n j HI.out.2.2.2.2.2.2.1
      have HC : Hid (Calls Tryd.prog 8 #[.pointer (some ⟨ib, 0, none⟩), .int .i64 0] wr fun e w' => e = .returned (.tuple #[]) ∧ ∃ g' ys', Done wr w' w2.heap.size a0 a1 ib w2.heap.size g (hl r n j) C' (min (C' - hl r n j) (n - hl r n j)) ys (hl r n j) (ef r n j) fa zs g' ys') := by
        have := hold_any w2.heap.size a0 a1 ib w2.heap.size g (hl r n j) (tt r n (j - 1)) n 0 (hl r n j) C' ys (hl r n j) (ef r n j) fa zs wr hI.len HI.out.2.2.1 hI.st (.inl ⟨rfl, rfl⟩) e1' (by have := tt_le r n HI.out.2.2.2.2.2.2.2.1 hn (j - 1); omega)
        exact this
      have HE1 : Hid (C' = if hl r n j = tt r n (j - 1) then 2 * tt r n (j - 1) else tt r n (j - 1)) := e1'
      clear e1' e2' e3' e4' e5'
      go_wp2_with (go_at_call 8; refine Calls.mono HC.out ?_; rintro e w5 ⟨rfl, g', ys', hD⟩)
      go_roundw
      case rel => exact ⟨j + 1, g', ys', by omega, by go_num, invA_step HI.out.2.2.2.2.2.2.1 HI.out.2.2.1 hI C' g' ys' HE1.out hD, hbl.trans (below_done hD.fr hI.st.Bi hI.st.Br hI.st.Bg hI.st.env.le)⟩
      case measure => simp [intOf]; omega
    · obtain rfl : j = k := by omega
      obtain ⟨_, hT3, hz, hlt1, hb2, hb2s, hr1, hr2, hb3⟩ := HI.out
      have i1 := hI.st.inp.c1
      have i2 := hI.st.inp.c2
      have hTl := tt_le r n hr2 hn (j - 1)
      have hTp := tt_pos r n hr1 (j - 1)
      rw [hI.len] at i1
      have HB : Hid (Below w'.heap.size w' wr) := hb2.trans ((hb3.trans hbl).mono hb2s)
      have HS1 : Hid (SB wr (some ⟨g, 0, none⟩) (zs.take (hl r n j)) ∧ (zs.take (hl r n j)).length = hl r n j) := by
        have hL : hl r n j ≤ n := by obtain ⟨_, _, _, _, _, h⟩ := step_nums r n j hr1; exact h
        refine ⟨?_, by simp; omega⟩
        rw [← hI.held]
        exact buf_sb hI.st.buf _
      have HS2 : Hid (SB wr d1 (zs.take (hl r n j))) := by
        rcases hT3 with h | ⟨b, o, rfl, hc⟩
        · exact .inl (by simp [h])
        · refine SB.take (.inr ⟨b, o, rfl, fun i hi => ?_⟩) _
          exact (hbl.cell (p := ⟨b, o + i, none⟩) (show b < w2.heap.size from hlt1 ⟨b, o, none⟩ rfl)).trans (hc i hi)
      have HL : Hid (hl r n j = if j = 0 then 0 else min n (tt r n (j - 1))) := rfl
      have HEf : Hid (ef r n j = (decide (1 ≤ j) && decide (n < tt r n (j - 1)))) := rfl
      clear hT3 hlt1 hb2 hb2s hb3 hI hbl HI hz
      go_wp2_with (go_at_call 9; refine (room_any _ _).mono ?_; rintro e w' ⟨rfl, rfl⟩; rw [HR.out])
      go_loop [11, 12] (fun t v => ∃ m : Nat, 1 ≤ m ∧ (m ≤ j ∨ m = 1) ∧ v = .int .i64 m ∧ t = .int .i64 (tt r n (m - 1))) (fun _ v => j - (intOf v).toNat)
      case atStart => exact ⟨1, by omega, .inr rfl, rfl, rfl⟩
      case round =>
        obtain ⟨m, hm1, hm2, rfl, rfl⟩ := hrel
        have b1 := tt_le r n hr2 hn (m - 1)
        by_cases hc : m < j ∧ tt r n (m - 1) ≤ n
        · obtain ⟨h1, h2⟩ := hc
          have HT : Hid (tt r n (m + 1 - 1) = 2 * tt r n (m - 1)) := by
            obtain ⟨q, rfl⟩ : ∃ q, m = q + 1 := ⟨m - 1, by omega⟩
            show tt r n (q + 1) = 2 * tt r n q
            have h2' : tt r n q ≤ n := h2
            simp only [tt]; rw [if_pos h2']
          go_wp2
          go_round
          case rel => exact ⟨m + 1, by omega, .inl (by omega), by go_num, by rw [HT.out]; go_num⟩
          case measure => simp [intOf]; omega
        · have HT : Hid (tt r n (m - 1) = tt r n (j - 1)) := by
            show tt r n (m - 1) = tt r n (j - 1)
            by_cases h1 : m < j
            · have h3 : n < tt r n (m - 1) := by omega
              have := tt_stop r n (m - 1) h3 (j - m)
              rw [show m - 1 + (j - m) = j - 1 by omega] at this
              exact this.symm
            · rcases hm2 with h | h
              · rw [show m = j by omega]
              · subst h; rw [show j - 1 = 1 - 1 by omega]
          have hmj : (m < j ∧ n < tt r n (m - 1)) ∨ ¬ m < j := by omega
          clear hc hm2
          generalize tt r n (m - 1) = T at *
          have hTj := HT.out
          rw [← hTj] at i1 hTl hTp
          have HL' : Hid (hl r n j = if j = 0 then 0 else min n T) := by rw [hTj]; exact HL.out
          have HE' : Hid (ef r n j = (decide (1 ≤ j) && decide (n < T))) := by rw [hTj]; exact HEf.out
          clear HL HEf HT hTj
          generalize hl r n j = L at *
          generalize ef r n j = eo at *
          have hcases : (j = 0 ∧ L = 0 ∧ eo = false) ∨ (1 ≤ j ∧ n < T ∧ L = n ∧ eo = true) ∨ (1 ≤ j ∧ T ≤ n ∧ L = T ∧ eo = false) := by
            have h1 := HL'.out
            have h2 := HE'.out
            by_cases h0 : j = 0
            · left; subst h0; exact ⟨rfl, by simpa using h1, by simpa using h2⟩
            · rw [if_neg h0] at h1
              by_cases hT : n < T
              · right; left; exact ⟨by omega, hT, by omega, by rw [h2]; simp [hT]; omega⟩
              · right; right; exact ⟨by omega, by omega, by omega, by rw [h2]; simp; omega⟩
          clear HL' HE'
          rcases hcases with ⟨rfl, rfl, rfl⟩ | ⟨h1, h2, rfl, rfl⟩ | ⟨h1, h2, rfl, rfl⟩
          · have x1 : ¬ m < 0 := by omega
            have x2 : ¬ (m : Int) < ((0 : Nat) : Int) := by omega
            clear hmj
            go_wp2
            go_quiet (first | (go_at_call 10; exact Calls.quiet_of_same (eof_any ib _ _ i2)) | (go_at_call 12; exact Calls.quiet_of_same (held_any ib _ _ i1)) | (go_at_call 11; refine Calls.quiet_of (eq_any _ _ _ _ _ _ _ HS1.out.2 ?_ (sb_draws HS1.out.1) (sb_draws HS2.out)); omega))
            go_wp2
            go_ret
            exact ⟨rfl, below_draws HB.out⟩
          · have x3 : (1 : Int) ≤ (j : Int) := by omega
            have x4 : (L : Int) < (T : Int) := by omega
            have x5 : ¬ (T : Int) ≤ (L : Int) := by omega
            have x6 : ((j : Int) == 0) = false := beq_eq_false_iff_ne.2 (by omega)
            by_cases x1 : m < j
            · go_wp2
              go_quiet (first | (go_at_call 10; exact Calls.quiet_of_same (eof_any ib _ _ i2)) | (go_at_call 12; exact Calls.quiet_of_same (held_any ib _ _ i1)) | (go_at_call 11; refine Calls.quiet_of (eq_any _ _ _ _ _ _ _ HS1.out.2 ?_ (sb_draws HS1.out.1) (sb_draws HS2.out)); omega))
              go_wp2
              go_ret
              exact ⟨rfl, below_draws HB.out⟩
            · go_wp2
              go_quiet (first | (go_at_call 10; exact Calls.quiet_of_same (eof_any ib _ _ i2)) | (go_at_call 12; exact Calls.quiet_of_same (held_any ib _ _ i1)) | (go_at_call 11; refine Calls.quiet_of (eq_any _ _ _ _ _ _ _ HS1.out.2 ?_ (sb_draws HS1.out.1) (sb_draws HS2.out)); omega))
              go_wp2
              go_ret
              exact ⟨rfl, below_draws HB.out⟩
          · have x1 : ¬ m < j := by omega
            have x3 : (1 : Int) ≤ (j : Int) := by omega
            have x5 : (L : Int) ≤ (n : Int) := by omega
            have x4 : ¬ (n : Int) < (L : Int) := by omega
            have x6 : ((j : Int) == 0) = false := beq_eq_false_iff_ne.2 (by omega)
            clear hmj
            go_wp2
            go_quiet (first | (go_at_call 10; exact Calls.quiet_of_same (eof_any ib _ _ i2)) | (go_at_call 12; exact Calls.quiet_of_same (held_any ib _ _ i1)) | (go_at_call 11; refine Calls.quiet_of (eq_any _ _ _ _ _ _ _ HS1.out.2 ?_ (sb_draws HS1.out.1) (sb_draws HS2.out)); omega))
            go_wp2
            go_ret
            exact ⟨rfl, below_draws HB.out⟩

end Go.Proofs.Qxb6618665aDoor
