/-
  FnInputSlidesInWindowsOfHeld: the law's own walk.
-/
import Derived.Test.Qxb6618665aDoorPlainB
namespace Go.Proofs.Qxb6618665aDoor
open Go.RowKit
set_option linter.unusedVariables false

section
variable (a : Option Addr) (n c : Nat) (x y : Int) (w : World)

theorem lawB_big1 (hn : 1048576 < n) (hm : n ≤ maxLen) : Calls Tryd.prog 4 #[.slice a n c, .int .i64 x, .int .i64 y] w fun e w' => e = .returned (.bool true) ∧ w' = w := by
  unfold maxLen at hm
  go_enter Tryd.func4, Tryd.ntmps4
  go_wp2
  go_ret
  exact ⟨rfl, rfl⟩

theorem lawB_big2 (hn : n ≤ 1048576) (hn2 : 65536 < n) : Calls Tryd.prog 4 #[.slice a n c, .int .i64 x, .int .i64 y] w fun e w' => e = .returned (.bool true) ∧ w' = w := by
  go_enter Tryd.func4, Tryd.ntmps4
  go_wp2_with (go_at_call 13; refine (bytes_ok2 _ _ _ _ _ _ hn).mono ?_; rintro e w' ⟨rfl, rfl⟩)
  go_ret
  exact ⟨rfl, rfl⟩

theorem lawB_held (hn : n ≤ 65536) (hx : 65536 < x) : Calls Tryd.prog 4 #[.slice a n c, .int .i64 x, .int .i64 y] w fun e w' => e = .returned (.bool true) ∧ w' = w := by
  go_enter Tryd.func4, Tryd.ntmps4
  go_wp2_with (go_at_call 13; refine (bytes_ok2 _ _ _ _ _ _ (by omega)).mono ?_; rintro e w' ⟨rfl, rfl⟩)
  go_ret
  exact ⟨rfl, rfl⟩

theorem lawB_neg (hn : n ≤ 65536) (hx : ¬ 65536 < x) (hy : y < 0) : Calls Tryd.prog 4 #[.slice a n c, .int .i64 x, .int .i64 y] w fun e w' => e = .returned (.bool true) ∧ w' = w := by
  go_enter Tryd.func4, Tryd.ntmps4
  go_wp2_with (go_at_call 13; refine (bytes_ok2 _ _ _ _ _ _ (by omega)).mono ?_; rintro e w' ⟨rfl, rfl⟩)
  go_ret
  exact ⟨rfl, rfl⟩

theorem lawB_over (hn : n ≤ 65536) (hx : ¬ 65536 < x) (hy : ¬ y < 0) (hy2 : 256 < y) : Calls Tryd.prog 4 #[.slice a n c, .int .i64 x, .int .i64 y] w fun e w' => e = .returned (.bool true) ∧ w' = w := by
  go_enter Tryd.func4, Tryd.ntmps4
  go_wp2_with (go_at_call 13; refine (bytes_ok2 _ _ _ _ _ _ (by omega)).mono ?_; rintro e w' ⟨rfl, rfl⟩)
  go_ret
  exact ⟨rfl, rfl⟩
end

set_option maxHeartbeats 2000000 in
theorem lawB_main (a : Option Addr) (n c k : Nat) (held : Int) (zs : List Int) (B : Nat) (a0 a1 : Addr) (w : World) (hz : zs.length = n) (hnil : a = none → n = 0 ∧ c = 0) (hn : n ≤ 65536) (hh : held ≤ 65536) (hk : k ≤ 256) (hS : SB w a zs) (hE : Env w B a0 a1) :
    Calls Tryd.prog 4 #[.slice a n c, .int .i64 held, .int .i64 k] w fun e w' => e = .returned (.bool true) ∧ Below w.heap.size w w' := by
  have e1 : decide ((65536 : Int) < (n : Int)) = false := by simp; omega
  have e2 : decide ((k : Int) < 0) = false := by simp
  have e3 : decide ((256 : Int) < (k : Int)) = false := by simp; omega
  have e4 : decide ((65536 : Int) < held) = false := by simp; omega
  go_enter Tryd.func4, Tryd.ntmps4
  go_wp2_with (go_at_call 13; refine (bytes_ok2 _ _ _ _ _ _ (by omega)).mono ?_; rintro e w' ⟨rfl, rfl⟩)
  refine (clone_any a n c zs _ hz (by omega) hnil hS).mono ?_
  rintro e w1 ⟨d1, rfl, hS1, hg1, ha1, hn1⟩
  go_wp2_with fail
  refine (clone_any d1 n n zs _ hz (by omega) (fun h => ⟨hn1 h, hn1 h⟩) hS1).mono ?_
  rintro e w2 ⟨fa, rfl, hS2, hg2, ha2, hn2⟩
  go_wp2_with fail
  refine (new_any held fa n zs w2.heap.size a0 a1 w2 hh hz hn ((hE.grown hg1).grown hg2) hS2 rfl ha2.lt).mono ?_
  rintro e w3 ⟨rfl, hst, hb3⟩
  have hT3 : SB w3 d1 zs := by
    rcases hS1 with h | ⟨b, o, rfl, hc⟩
    · exact .inl h
    · exact .inr ⟨b, o, rfl, fun i hi => by
        have := hg2.cell (hc i hi) (by simp)
        rw [hb3.cell (World.block_lt_of_cell? _ _ this)]; exact this⟩
  have hr : 1 ≤ room held ∧ room held ≤ 65536 := by unfold room; split <;> omega
  have hlt1 : ∀ x, d1 = some x → x.block < w2.heap.size := fun x hx => Nat.lt_of_lt_of_le (ha1.lt x hx) hg2.size
  have hb2 : Below w'.heap.size w' w2 := ((Below.refl _ w').grown hg1 (Nat.le_refl _) (by simp)).grown hg2 (by have := hg1.size; omega) (by simp)
  have hd1 : (d1 = none ∧ n = 0) ∨ ∃ b, d1 = some ⟨b, 0, none⟩ := by
    rcases ha1 with h | ⟨h, _⟩
    · exact .inl ⟨h, hn1 h⟩
    · exact .inr ⟨_, h⟩
  have hI0 : InvB w3 w2.heap.size a0 a1 (w2.heap.size + 2) w2.heap.size (w2.heap.size + 1) 0 0 (room held) n fa zs (zeroRow (room held)) := ⟨by simpa using hst, zeroRow_length _⟩
  have HI : Hid (InvB w3 w2.heap.size a0 a1 (w2.heap.size + 2) w2.heap.size (w2.heap.size + 1) 0 0 (room held) n fa zs (zeroRow (room held)) ∧ SB w3 d1 zs ∧ zs.length = n ∧ (∀ x, d1 = some x → x.block < w2.heap.size) ∧ Below w'.heap.size w' w2 ∧ w'.heap.size ≤ w2.heap.size ∧ 1 ≤ room held ∧ room held ≤ 65536 ∧ Below w2.heap.size w2 w3) :=
    ⟨hI0, hT3, hz, hlt1, hb2, hb2.size, hr.1, hr.2, hb3⟩
  clear hst hT3 hlt1 hb2 hr hS1 hS2 hg1 hg2 ha1 ha2 hn1 hn2 hS hE hz hb3 hI0
  generalize hi : w2.heap.size + 2 = ib at *
  generalize hr0 : room held = r at *
  have HR : Hid (room held = r) := hr0
  clear hr0
  go_wp2_with (go_at_call 9; refine (room_any _ _).mono ?_; rintro e w9 ⟨rfl, hw9⟩; obtain rfl := hw9.symm; rw [HR.out])
  go_loopw [11] (fun v wr => ∃ (m g L : Nat) (ys : List Int), m ≤ k ∧ v = .int .i64 ((m : Int) + 1) ∧ InvB wr w2.heap.size a0 a1 ib w2.heap.size g L (m * r) r n fa zs ys ∧ Below w2.heap.size w3 wr) (fun v _ => k + 1 - (intOf v).toNat)
  case atStart => exact ⟨0, _, _, _, Nat.zero_le _, rfl, by rw [Nat.zero_mul]; exact HI.out.1, Below.refl _ _⟩
  case round =>
    obtain ⟨m, g, L, ys, hm, rfl, hI, hbl⟩ := hrel
    obtain ⟨_, hT3, hz, hlt1, hb2, hb2s, hr1, hr2, hb3⟩ := HI.out
    by_cases hlt : m < k
    · obtain ⟨A, hA0⟩ : ∃ A, A = m * r := ⟨_, rfl⟩
      rw [← hA0] at hI
      have hA : (m : Int) * (r : Int) = (A : Int) := by rw [hA0, Int.natCast_mul]
      obtain ⟨D, hD0⟩ : ∃ D, D = A + r := ⟨_, rfl⟩
      have hD : ((m : Int) + 1) * (r : Int) = (D : Int) := by rw [Int.add_mul, hA, Int.one_mul, hD0, Int.natCast_add]
      have hAb : A ≤ 16777216 := by
        rw [hA0]; exact Nat.le_trans (Nat.mul_le_mul (show m ≤ 256 by omega) hr2) (by omega)
      have HA0 : Hid (A + r = (m + 1) * r) := by show A + r = (m + 1) * r; rw [hA0, Nat.add_mul, Nat.one_mul]
      have i1 := hI.st.inp.c1
      rw [hI.len] at i1
      have hLr : L ≤ r := by rw [← hI.len]; exact hI.st.Ll
      have HC : Hid (Calls Tryd.prog 8 #[.pointer (some ⟨ib, 0, none⟩), .int .i64 L] wr fun e w' => e = .returned (.tuple #[]) ∧ ∃ g' ys', Done wr w' w2.heap.size a0 a1 ib w2.heap.size g 0 r (min (r - 0) (n - min n A)) ys (min n A) (decide (n < A)) fa zs g' ys') :=
        hold_any w2.heap.size a0 a1 ib w2.heap.size g L r n L 0 r ys (min n A) (decide (n < A)) fa zs wr hI.len hz hI.st (.inr ⟨rfl, rfl⟩) (by rw [if_neg (by omega)]) (by omega)
      have HJ : Hid (InvB wr w2.heap.size a0 a1 ib w2.heap.size g L A r n fa zs ys ∧ Below w2.heap.size w3 wr ∧ SB w3 d1 zs ∧ zs.length = n ∧ (∀ x, d1 = some x → x.block < w2.heap.size)) := ⟨hI, hbl, hT3, hz, hlt1⟩
      clear hA0 hI hbl hT3 hz hlt1 hb2 hb2s hb3
      go_wp2_with fail
      refine (held_any ib _ wr i1).mono ?_
      rintro e w4 ⟨rfl, rfl⟩
      go_wp2_with fail
      refine Calls.mono HC.out ?_
      rintro e w5 ⟨rfl, g', ys', hDn⟩
      obtain ⟨hI', hSB'⟩ := invB_step hr1 HJ.out.2.2.2.1 HJ.out.1 g' ys' hDn
      have hAD : A < D := by omega
      have hDb : D ≤ 16842752 := by omega
      rw [← hD0] at hI' hSB'
      have HN : Hid (InvB w5 w2.heap.size a0 a1 ib w2.heap.size g' (min n D - min n A) D r n fa zs ys' ∧ SB w5 (some ⟨g', 0, none⟩) ((zs.drop (min n A)).take (min n D - min n A)) ∧ Below w2.heap.size w3 w5 ∧ D = (m + 1) * r) := ⟨hI', hSB', HJ.out.2.1.trans (below_done hDn.fr HJ.out.1.st.Bi HJ.out.1.st.Br HJ.out.1.st.Bg HJ.out.1.st.env.le), hD0.trans HA0.out⟩
      have hzl : ((zs.drop (min n A)).take (min n D - min n A)).length = min n D - min n A := by
        have := HJ.out.2.2.2.1
        simp; omega
      have HZ : Hid (((zs.drop (min n A)).take (min n D - min n A)).length = min n D - min n A) := hzl
      have HW : Hid (∀ b, d1 = some ⟨b, 0, none⟩ → SB w5 (some ⟨b, min n A, none⟩) ((zs.drop (min n A)).take (min n D - min n A))) := by
        rintro b rfl
        have hT5 : SB w5 (some ⟨b, 0, none⟩) zs := by
          rcases HJ.out.2.2.1 with h | ⟨b', o, e, hc⟩
          · exact .inl h
          · refine .inr ⟨b', o, e, fun i hi => ?_⟩
            exact (HN.out.2.2.1.cell (p := ⟨b', o + i, none⟩) (show b' < w2.heap.size from HJ.out.2.2.2.2 ⟨b', o, none⟩ e)).trans (hc i hi)
        exact hT5.window _ _ (by have := HJ.out.2.2.2.1; omega)
      have j1 := hI'.st.inp.c1
      rw [hI'.len] at j1
      have j2 := hI'.st.inp.c2
      clear hI' hSB' hDn HC i1 hLr hzl hD0 HA0
      have HJ2 : Hid (zs.length = n) := HJ.out.2.2.2.1
      clear HJ HI HR
      generalize hlo : min n A = lo at *
      generalize hhi : min n D - lo = q at *
      have HL : Hid (min n A = lo ∧ min n D - lo = q) := ⟨hlo, hhi⟩
      clear hlo hhi
      rcases hd1 with ⟨rfl, hn0⟩ | ⟨b, rfl⟩
      · obtain ⟨hl1, hl2⟩ := HL.out
        obtain rfl : lo = n := by omega
        obtain rfl : q = 0 := by omega
        have HX : Hid (SB w5 (none : Option Addr) ((zs.drop lo).take 0)) := .inl (by simp)
        have x2 : (lo : Int) < (D : Int) := by omega
        have hn1 : (lo : Int) ≤ 0 := by omega
        clear hl1 hl2 HL hn0
        rw [show decide (lo < D) = true by simp; omega] at j2
        by_cases h1 : lo < A
        · have x1 : (lo : Int) < (A : Int) := by omega
          go_wp2
          go_quiet (first | (go_at_call 12; exact Calls.quiet_of_same (held_any ib _ _ j1)) | (go_at_call 11; refine Calls.quiet_of (eq_any _ _ _ _ _ _ _ HZ.out ?_ (sb_draws HN.out.2.1) (sb_draws HX.out)); omega))
          go_wp2_with (go_at_call 10; refine (eof_any ib _ (w5.drewN _) j2).mono ?_; rintro e w9 ⟨rfl, hw9⟩; obtain rfl := hw9.symm)
          go_roundw
          case rel => exact ⟨m + 1, g', _, ys', by omega, by go_num, by rw [← HN.out.2.2.2]; exact HN.out.1.draws _, below_draws HN.out.2.2.1⟩
          case measure => simp [intOf]; omega
        · have x1 : ¬ (lo : Int) < (A : Int) := by omega
          obtain rfl : lo = A := by omega
          go_wp2
          go_quiet (first | (go_at_call 12; exact Calls.quiet_of_same (held_any ib _ _ j1)) | (go_at_call 11; refine Calls.quiet_of (eq_any _ _ _ _ _ _ _ HZ.out ?_ (sb_draws HN.out.2.1) (sb_draws HX.out)); omega))
          go_wp2_with (go_at_call 10; refine (eof_any ib _ (w5.drewN _) j2).mono ?_; rintro e w9 ⟨rfl, hw9⟩; obtain rfl := hw9.symm)
          go_roundw
          case rel => exact ⟨m + 1, g', _, ys', by omega, by go_num, by rw [← HN.out.2.2.2]; exact HN.out.1.draws _, below_draws HN.out.2.2.1⟩
          case measure => simp [intOf]; omega
      · by_cases h1 : n < A
        · obtain ⟨hl1, hl2⟩ := HL.out
          obtain rfl : lo = n := by omega
          obtain rfl : q = 0 := by omega
          have x1 : (lo : Int) < (A : Int) := by omega
          have x2 : (lo : Int) < (D : Int) := by omega
          have HX : Hid (SB w5 (some (⟨b, 0, none⟩ : Addr)) ((zs.drop lo).take 0)) := .inl (by simp)
          rw [show decide (lo < D) = true by simp; omega] at j2
          clear hl1 hl2 HL
          go_wp2
          go_quiet (first | (go_at_call 12; exact Calls.quiet_of_same (held_any ib _ _ j1)) | (go_at_call 11; refine Calls.quiet_of (eq_any _ _ _ _ _ _ _ HZ.out ?_ (sb_draws HN.out.2.1) (sb_draws HX.out)); omega))
          go_wp2_with (go_at_call 10; refine (eof_any ib _ (w5.drewN _) j2).mono ?_; rintro e w9 ⟨rfl, hw9⟩; obtain rfl := hw9.symm)
          go_roundw
          case rel => exact ⟨m + 1, g', _, ys', by omega, by go_num, by rw [← HN.out.2.2.2]; exact HN.out.1.draws _, below_draws HN.out.2.2.1⟩
          case measure => simp [intOf]; omega
        · obtain ⟨hl1, hl2⟩ := HL.out
          obtain rfl : lo = A := by omega
          by_cases h2 : lo = n
          · obtain rfl : lo = n := h2
            obtain rfl : q = 0 := by omega
            have x1 : ¬ (lo : Int) < (lo : Int) := by omega
            have x2 : (lo : Int) < (D : Int) := by omega
            have HX : Hid (SB w5 (some (⟨b, 0, none⟩ : Addr)) ((zs.drop lo).take 0)) := .inl (by simp)
            rw [show decide (lo < D) = true by simp; omega] at j2
            clear hl1 hl2 HL
            go_wp2
            go_quiet (first | (go_at_call 12; exact Calls.quiet_of_same (held_any ib _ _ j1)) | (go_at_call 11; refine Calls.quiet_of (eq_any _ _ _ _ _ _ _ HZ.out ?_ (sb_draws HN.out.2.1) (sb_draws HX.out)); omega))
            go_wp2_with (go_at_call 10; refine (eof_any ib _ (w5.drewN _) j2).mono ?_; rintro e w9 ⟨rfl, hw9⟩; obtain rfl := hw9.symm)
            go_roundw
            case rel => exact ⟨m + 1, g', _, ys', by omega, by go_num, by rw [← HN.out.2.2.2]; exact HN.out.1.draws _, below_draws HN.out.2.2.1⟩
            case measure => simp [intOf]; omega
          · have x0 : ¬ n = lo := fun h => h2 h.symm
            have HX : Hid (SB w5 (some (⟨b, lo, none⟩ : Addr)) ((zs.drop lo).take q)) := HW.out b rfl
            have x1 : ¬ (n : Int) < (lo : Int) := by omega
            by_cases h3 : n < D
            · obtain rfl : q = n - lo := by omega
              have x2 : (n : Int) < (D : Int) := by omega
              rw [show decide (n < D) = true by simp; omega] at j2
              clear hl1 hl2 HL
              go_wp2
              go_quiet (first | (go_at_call 12; exact Calls.quiet_of_same (held_any ib _ _ j1)) | (go_at_call 11; refine Calls.quiet_of (eq_any _ _ _ _ _ _ _ HZ.out ?_ (sb_draws HN.out.2.1) (sb_draws HX.out)); omega))
              go_wp2_with (go_at_call 10; refine (eof_any ib _ (w5.drewN _) j2).mono ?_; rintro e w9 ⟨rfl, hw9⟩; obtain rfl := hw9.symm)
              go_roundw
              case rel => exact ⟨m + 1, g', _, ys', by omega, by go_num, by rw [← HN.out.2.2.2]; exact HN.out.1.draws _, below_draws HN.out.2.2.1⟩
              case measure => simp [intOf]; omega
            · obtain rfl : q = D - lo := by omega
              have x2 : ¬ (n : Int) < (D : Int) := by omega
              rw [show decide (n < D) = false by simp; omega] at j2
              clear hl1 hl2 HL
              go_wp2
              go_quiet (first | (go_at_call 12; exact Calls.quiet_of_same (held_any ib _ _ j1)) | (go_at_call 11; refine Calls.quiet_of (eq_any _ _ _ _ _ _ _ HZ.out ?_ (sb_draws HN.out.2.1) (sb_draws HX.out)); omega))
              go_wp2_with (go_at_call 10; refine (eof_any ib _ (w5.drewN _) j2).mono ?_; rintro e w9 ⟨rfl, hw9⟩; obtain rfl := hw9.symm)
              go_roundw
              case rel => exact ⟨m + 1, g', _, ys', by omega, by go_num, by rw [← HN.out.2.2.2]; exact HN.out.1.draws _, below_draws HN.out.2.2.1⟩
              case measure => simp [intOf]; omega
    · have hge : ¬ (m : Int) + 1 ≤ (k : Int) := by omega
      have HB : Hid (Below w'.heap.size w' wr) := hb2.trans ((hb3.trans hbl).mono hb2s)
      clear hI hbl hT3 hz hlt1 hb2 hb2s hb3 HI HR
      go_wp2
      go_ret
      exact ⟨rfl, HB.out⟩

end Go.Proofs.Qxb6618665aDoor
