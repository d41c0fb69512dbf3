/-
  The law's own walk.
-/
import Derived.Test.Qxb6618665aFnsB
namespace Go.Proofs.Qxb6618665a
open Go.RowKit

theorem bytes_ok (a : Option Addr) (n c : Nat) (x y : Int) (w : World) (hn : n ≤ 1048576) :
    Calls Try.prog 4 #[.slice a n c, .int .i64 x, .int .i64 y] w fun e w' => e = .returned (.bool true) ∧ w' = w := by
  go_enter Try.func4, Try.ntmps4
  go_wp2
  go_ret
  exact ⟨rfl, rfl⟩

/-- The ways out at the law's head. -/
theorem law_big1 (a : Option Addr) (n c : Nat) (x y : Int) (w : World) (hn : 1048576 < n) (hm : n ≤ maxLen) :
    Calls Try.prog 3 #[.slice a n c, .int .i64 x, .int .i64 y] w fun e w' => e = .returned (.bool true) ∧ w' = w := by
  unfold maxLen at hm
  go_enter Try.func3, Try.ntmps3
  go_wp2
  go_ret
  exact ⟨rfl, rfl⟩

theorem law_big2 (a : Option Addr) (n c : Nat) (x y : Int) (w : World) (hn : n ≤ 1048576) (hn2 : 65536 < n) :
    Calls Try.prog 3 #[.slice a n c, .int .i64 x, .int .i64 y] w fun e w' => e = .returned (.bool true) ∧ w' = w := by
  go_enter Try.func3, Try.ntmps3
  go_wp2_with (go_at_call 4; refine (bytes_ok _ _ _ _ _ _ hn).mono ?_; rintro e w' ⟨rfl, rfl⟩)
  go_ret
  exact ⟨rfl, rfl⟩

theorem law_neg (a : Option Addr) (n c : Nat) (x y : Int) (w : World) (hn : n ≤ 65536) (hy : y < 0) :
    Calls Try.prog 3 #[.slice a n c, .int .i64 x, .int .i64 y] w fun e w' => e = .returned (.bool true) ∧ w' = w := by
  go_enter Try.func3, Try.ntmps3
  go_wp2_with (go_at_call 4; refine (bytes_ok _ _ _ _ _ _ (by omega)).mono ?_; rintro e w' ⟨rfl, rfl⟩)
  go_ret
  exact ⟨rfl, rfl⟩

theorem law_over (a : Option Addr) (n c : Nat) (x y : Int) (w : World) (hn : n ≤ 65536) (hy0 : ¬ y < 0) (hy : (n : Int) < y) :
    Calls Try.prog 3 #[.slice a n c, .int .i64 x, .int .i64 y] w fun e w' => e = .returned (.bool true) ∧ w' = w := by
  go_enter Try.func3, Try.ntmps3
  go_wp2_with (go_at_call 4; refine (bytes_ok _ _ _ _ _ _ (by omega)).mono ?_; rintro e w' ⟨rfl, rfl⟩)
  go_ret
  exact ⟨rfl, rfl⟩

theorem below_draws {B : Nat} {w w' : World} {k : Nat} (h : Below B w w') : Below B w (w'.drewN k) := ⟨h.os, h.tape, h.output, h.size, h.block⟩

set_option maxHeartbeats 1000000 in
theorem law_main (a : Option Addr) (n c k : Nat) (x : Int) (zs : List Int) (w : World) (hz : zs.length = n) (hnil : a = none → n = 0 ∧ c = 0) (hn : n ≤ 65536) (hk : k ≤ n) (hS : SB w a zs) :
    Calls Try.prog 3 #[.slice a n c, .int .i64 x, .int .i64 k] w fun e w' => e = .returned (.bool true) ∧ Below w.heap.size w w' := by
  have e1 : decide ((65536 : Int) < (n : Int)) = false := by simp; omega
  have e2 : decide ((k : Int) < 0) = false := by simp
  have e3 : decide ((n : Int) < (k : Int)) = false := by simp; exact hk
  go_enter Try.func3, Try.ntmps3
  go_wp2_with (go_at_call 4; refine (bytes_ok _ _ _ _ _ _ (by omega)).mono ?_; rintro e w' ⟨rfl, rfl⟩)
  refine (clone_any a n c zs _ hz (by omega) hnil hS).mono ?_
  rintro e w1 ⟨a1, rfl, hS1, hg1, ha1, hn1⟩
  go_wp2_with fail
  refine (clone_any a1 n n zs _ hz (by omega) (fun h => ⟨hn1 h, hn1 h⟩) hS1).mono ?_
  rintro e w2 ⟨a2, rfl, hS2, hg2, ha2, hn2⟩
  go_wp2_with fail
  refine (reset_any _ _ _ _ _ _ a2 n n x _ (Sc_new w2 30)).mono ?_
  rintro e w3 ⟨rfl, hC3, hg3⟩
  have hg3' := (World.grownBy_alloc w2 _ (some w2.heap.size)).trans hg3
  have hp2 : Apart a2 w2.heap.size := ha2.apart (Nat.le_refl _)
  have hS3 : SB w3 a2 zs := hS2.grown hg3' hp2
  clear hg3
  go_wp2_with fail
  refine (skip_any _ a2 n n zs x _ _ _ _ hz (by omega) hp2 hS3 hC3).mono ?_
  rintro e w4 ⟨rfl, hC4, hg4⟩
  have hS4 : SB w4 a2 zs := hS3.grown hg4 hp2
  clear hS3 hC3
  go_wp2_with fail
  have hzk : (zs.take k).length = k := by simp; omega
  refine (reset_any _ _ _ _ _ _ a2 k n x _ (Sc_new w4 30)).mono ?_
  rintro e w5 ⟨rfl, hD5, hg5⟩
  have hg5' := (World.grownBy_alloc w4 _ (some w4.heap.size)).trans hg5
  have s2 := hg2.size
  have s3 := hg3'.size
  have s4 := hg4.size
  have s5 := hg5'.size
  have hp4 : Apart a2 w4.heap.size := ha2.apart (by omega)
  have hl4 := hC4.lt
  have hS5 : SB w5 a2 zs := hS4.grown hg5' hp4
  have hC5 := hC4.grown hg5' (by omega)
  clear hg5
  go_wp2_with fail
  refine (skip_any _ a2 k n (zs.take k) x _ _ _ _ hzk (by omega) hp4 (hS5.take k) hD5).mono ?_
  rintro e w6 ⟨rfl, hD6, hg6⟩
  have hS6 : SB w6 a2 zs := hS5.grown hg6 hp4
  have hC6 := hC5.grown hg6 (by omega)
  have s6 := hg6.size
  have s1 := hg1.size
  have hb : Below w'.heap.size w' w6 := by
    have b1 := (Below.refl w'.heap.size w').grown hg1 (Nat.le_refl _) (by simp)
    have b2 := b1.grown hg2 (by omega) (by simp)
    have b3 := b2.grown hg3' (by omega) (by simp; omega)
    have b4 := b3.grown hg4 (by omega) (by simp; omega)
    have b5 := b4.grown hg5' (by omega) (by simp; omega)
    exact b5.grown hg6 (by omega) (by simp; omega)
  have hT6 : SB w6 a1 zs := by
    have hq2 : Apart a1 w2.heap.size := ha1.apart (by omega)
    have hq4 : Apart a1 w4.heap.size := ha1.apart (by omega)
    exact ((((hS1.grown0 hg2).grown hg3' hq2).grown hg4 hq2).grown hg5' hq4).grown hg6 hq4
  rw [lead_take zs k (by omega)] at hD6
  have q1 := lead_le zs
  have q2 := lead_sp zs
  have q3 := lead_stop zs
  generalize lead zs = q at *
  rw [hz] at q1 q3
  clear hg1 hg2 hg3' hg4 hg5' hS1 hS2 hS4 hS5 hC4 hC5 hD5 hS
  have q2' : ∀ i, i < q → isSp (zs[i]?.getD 0) = true := fun i hi => by simpa [List.getD] using q2 i hi
  have q3' : q < n → isSp (zs[q]?.getD 0) = false := fun h => by simpa [List.getD] using q3 h
  obtain ⟨b1, o1, hz1, hc1⟩ : ∃ b1 o1, (0 < n → a1 = some ⟨b1, o1, none⟩) ∧ ∀ i, i < n → w6.cell? ⟨b1, o1 + i, none⟩ = some (.int .u8 (zs.getD i 0)) := by
    rcases hT6 with rfl | ⟨b1, o1, rfl, hc⟩
    · exact ⟨0, 0, fun h => by simp at hz; omega, fun i hi => by simp at hz; omega⟩
    · exact ⟨b1, o1, fun _ => rfl, fun i hi => hc i (by omega)⟩
  obtain ⟨Z, hZ⟩ : ∃ Z : Nat → Int, ∀ i, Z i = zs.getD i 0 := ⟨fun i => zs.getD i 0, fun _ => rfl⟩
  have q4 : ∀ i, i < q → isSp (Z i) = true := fun i hi => by rw [hZ]; exact q2 i hi
  have q5 : q < n → isSp (Z q) = false := fun h => by rw [hZ]; exact q3 h
  have hc2 : ∀ i, i < n → w6.cell? ⟨b1, o1 + i, none⟩ = some (.int .u8 (Z i)) := fun i hi => by rw [hZ]; exact hc1 i hi
  have HA : Hid (zs.length = n ∧ SB w6 a1 zs ∧ SB w6 a2 zs) := ⟨hz, hT6, hS6⟩
  have HC := hC6
  have c1 := hC6.c1
  have g1 : (q : Int) ≤ (n : Int) := by omega
  clear q2 q3 q2' q3' hc1 hZ hz hT6 hS6 hzk hp4 hp2 ha1 ha2
  have e4 : decide ((q : Int) < 0) = false := by simp
  have e5 : decide (n < q) = false := by simp; exact q1
  go_wp2_with (go_at_call 8; refine (pos_any _ _ _ c1).mono ?_; rintro e w7 ⟨rfl, rfl⟩)
  go_loop [11] (fun i => ∃ j : Nat, j ≤ q ∧ i = .int .i64 j) (fun i => q - (intOf i).toNat)
  case atStart => exact ⟨0, Nat.zero_le _, rfl⟩
  case round =>
    obtain ⟨j, hj, rfl⟩ := hrel
    by_cases hlt : j < q
    · have hs := q4 j hlt
      obtain rfl := hz1 (by omega)
      have hcj := hc2 j (by omega)
      clear hz1 hc2 q4 q5
      go_wp2_with (go_at_call 9; refine (space_any _ _).mono ?_; rintro e w' ⟨rfl, rfl⟩; rw [hs])
      go_round
      case rel => exact ⟨j + 1, by omega, by go_num⟩
      case measure => simp [intOf]; omega
    · have qn : ∀ w : World, (binOp .eql 27 .nilIface .nilIface).run Try.prog w = .ok (.bool true) w := fun w => by kernel_rfl
      have HD := hD6
      have HL : Hid _ := hD6.c1
      have HE : Hid _ := hC6.c2
      have HF : Hid _ := hC6.c3
      have HG : Hid _ := hC6.c4
      have HI : Hid _ := hC6.c0
      have xx : (x == x) = true := by simp
      clear hD6 hC6 HC HD c1 q4
      by_cases hqn : q < n
      · have hs := q5 hqn
        obtain rfl := hz1 (by omega)
        have hcq := hc2 q hqn
        clear q5 hz1 hc2
        by_cases hkq : k < q
        · rw [if_pos hkq] at HL
          go_wp2_with (first
            | (go_at_call 9; refine (space_any _ _).mono ?_; rintro e w' ⟨rfl, rfl⟩; rw [hs])
            | (go_at_call 8; refine (pos_any _ _ _ HL.out).mono ?_; rintro e w' ⟨rfl, rfl⟩)
            | (go_at_call 10; refine (base_any _ _ _ HE.out).mono ?_; rintro e w' ⟨rfl, rfl⟩)
            | (go_at_call 11; refine (err_any _ _ _ HF.out).mono ?_; rintro e w' ⟨rfl, rfl⟩)
            | (go_at_call 12; refine (short_any _ _ _ HG.out).mono ?_; rintro e w' ⟨rfl, rfl⟩)
            | (go_at_call 14; refine (data_any _ _ _ HI.out).mono ?_; rintro e w' ⟨rfl, rfl⟩)
            | (go_at_call 13; refine (eq_any _ _ _ _ _ zs _ HA.out.1 (by omega) HA.out.2.2 HA.out.2.1).mono ?_; rintro e w' ⟨rfl, nn, rfl⟩))
          go_ret
          exact ⟨rfl, below_draws hb⟩
        · rw [if_neg hkq] at HL
          go_wp2_with (first
            | (go_at_call 9; refine (space_any _ _).mono ?_; rintro e w' ⟨rfl, rfl⟩; rw [hs])
            | (go_at_call 8; refine (pos_any _ _ _ HL.out).mono ?_; rintro e w' ⟨rfl, rfl⟩)
            | (go_at_call 10; refine (base_any _ _ _ HE.out).mono ?_; rintro e w' ⟨rfl, rfl⟩)
            | (go_at_call 11; refine (err_any _ _ _ HF.out).mono ?_; rintro e w' ⟨rfl, rfl⟩)
            | (go_at_call 12; refine (short_any _ _ _ HG.out).mono ?_; rintro e w' ⟨rfl, rfl⟩)
            | (go_at_call 14; refine (data_any _ _ _ HI.out).mono ?_; rintro e w' ⟨rfl, rfl⟩)
            | (go_at_call 13; refine (eq_any _ _ _ _ _ zs _ HA.out.1 (by omega) HA.out.2.2 HA.out.2.1).mono ?_; rintro e w' ⟨rfl, nn, rfl⟩))
          go_ret
          exact ⟨rfl, below_draws hb⟩
      · clear q5 hz1 hc2
        by_cases hkq : k < q
        · rw [if_pos hkq] at HL
          go_wp2_with (first
            | (go_at_call 8; refine (pos_any _ _ _ HL.out).mono ?_; rintro e w' ⟨rfl, rfl⟩)
            | (go_at_call 10; refine (base_any _ _ _ HE.out).mono ?_; rintro e w' ⟨rfl, rfl⟩)
            | (go_at_call 11; refine (err_any _ _ _ HF.out).mono ?_; rintro e w' ⟨rfl, rfl⟩)
            | (go_at_call 12; refine (short_any _ _ _ HG.out).mono ?_; rintro e w' ⟨rfl, rfl⟩)
            | (go_at_call 14; refine (data_any _ _ _ HI.out).mono ?_; rintro e w' ⟨rfl, rfl⟩)
            | (go_at_call 13; refine (eq_any _ _ _ _ _ zs _ HA.out.1 (by omega) HA.out.2.2 HA.out.2.1).mono ?_; rintro e w' ⟨rfl, nn, rfl⟩))
          go_ret
          exact ⟨rfl, below_draws hb⟩
        · rw [if_neg hkq] at HL
          go_wp2_with (first
            | (go_at_call 8; refine (pos_any _ _ _ HL.out).mono ?_; rintro e w' ⟨rfl, rfl⟩)
            | (go_at_call 10; refine (base_any _ _ _ HE.out).mono ?_; rintro e w' ⟨rfl, rfl⟩)
            | (go_at_call 11; refine (err_any _ _ _ HF.out).mono ?_; rintro e w' ⟨rfl, rfl⟩)
            | (go_at_call 12; refine (short_any _ _ _ HG.out).mono ?_; rintro e w' ⟨rfl, rfl⟩)
            | (go_at_call 14; refine (data_any _ _ _ HI.out).mono ?_; rintro e w' ⟨rfl, rfl⟩)
            | (go_at_call 13; refine (eq_any _ _ _ _ _ zs _ HA.out.1 (by omega) HA.out.2.2 HA.out.2.1).mono ?_; rintro e w' ⟨rfl, nn, rfl⟩))
          go_ret
          exact ⟨rfl, below_draws hb⟩

end Go.Proofs.Qxb6618665a
