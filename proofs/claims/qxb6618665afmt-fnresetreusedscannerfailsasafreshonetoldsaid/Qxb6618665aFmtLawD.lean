/-
  FnResetReusedScannerFailsAsAFreshOne: the law's own walk.
-/
import Derived.Test.Qxb6618665aFmtLawC
namespace Go.Proofs.Qxb6618665aFmt
open Go.RowKit Go.Extern.Stop Go.Stop Go.Extern
set_option linter.unusedVariables false

set_option maxHeartbeats 1000000 in
theorem lawD_out (a1 : Option Addr) (n1 c1 : Nat) (b1 : Int) (s1 : ByteArray) (a2 : Option Addr) (n2 c2 : Nat) (b2 : Int) (s2 : ByteArray) (w : World) (hm1 : n1 ≤ maxLen) (hs1 : s1.size ≤ maxLen) (hm2 : n2 ≤ maxLen) (hs2 : s2.size ≤ maxLen)
    (h : 65536 < n1 ∨ 65536 < s1.size ∨ 65536 < n2 ∨ 65536 < s2.size) : Calls Tryf.prog 3 #[.slice a1 n1 c1, .int .i64 b1, .string s1, .slice a2 n2 c2, .int .i64 b2, .string s2] w fun e w' => e = .returned (.bool true) ∧ w' = w := by
  unfold maxLen at hm1 hs1 hm2 hs2
  by_cases h0 : 1048576 < n1
  · go_enter Tryf.func3, Tryf.ntmps3
    go_wp2
    go_ret
    exact ⟨rfl, rfl⟩
  by_cases h1 : 1048576 < s1.size
  · go_enter Tryf.func3, Tryf.ntmps3
    go_wp2
    go_ret
    exact ⟨rfl, rfl⟩
  by_cases h2 : 1048576 < n1 + s1.size
  · go_enter Tryf.func3, Tryf.ntmps3
    go_wp2
    go_ret
    exact ⟨rfl, rfl⟩
  by_cases h3 : 1048576 < n2
  · go_enter Tryf.func3, Tryf.ntmps3
    go_wp2
    go_ret
    exact ⟨rfl, rfl⟩
  by_cases h4 : 1048576 < n1 + s1.size + n2
  · go_enter Tryf.func3, Tryf.ntmps3
    go_wp2
    go_ret
    exact ⟨rfl, rfl⟩
  by_cases h5 : 1048576 < s2.size
  · go_enter Tryf.func3, Tryf.ntmps3
    go_wp2
    go_ret
    exact ⟨rfl, rfl⟩
  by_cases h6 : 1048576 < n1 + s1.size + n2 + s2.size
  · go_enter Tryf.func3, Tryf.ntmps3
    go_wp2
    go_ret
    exact ⟨rfl, rfl⟩
  by_cases h7 : 65536 < n1
  · go_enter Tryf.func3, Tryf.ntmps3
    go_wp2
    go_ret
    exact ⟨rfl, rfl⟩
  by_cases h8 : 65536 < s1.size
  · go_enter Tryf.func3, Tryf.ntmps3
    go_wp2
    go_ret
    exact ⟨rfl, rfl⟩
  by_cases h9 : 65536 < n2
  · go_enter Tryf.func3, Tryf.ntmps3
    go_wp2
    go_ret
    exact ⟨rfl, rfl⟩
  have hl : 65536 < s2.size := by omega
  go_enter Tryf.func3, Tryf.ntmps3
  go_wp2
  go_ret
  exact ⟨rfl, rfl⟩

theorem bytesD_ok (a1 : Option Addr) (n1 c1 : Nat) (b1 : Int) (s1 : ByteArray) (a2 : Option Addr) (n2 c2 : Nat) (b2 : Int) (s2 : ByteArray) (w : World) (hn1 : n1 ≤ 65536) (hs1 : s1.size ≤ 65536) (hn2 : n2 ≤ 65536) (hs2 : s2.size ≤ 65536) :
    Calls Tryf.prog 6 #[.slice a1 n1 c1, .int .i64 b1, .string s1, .slice a2 n2 c2, .int .i64 b2, .string s2] w fun e w' => e = .returned (.bool true) ∧ w' = w := by
  go_enter Tryf.func6, Tryf.ntmps6
  go_wp2
  go_ret
  exact ⟨rfl, rfl⟩

set_option maxHeartbeats 2000000 in
theorem lawD_main (F : Interp) (a1 : Option Addr) (n1 c1 : Nat) (b1 : Int) (s1 : ByteArray) (a2 : Option Addr) (n2 c2 : Nat) (b2 : Int) (s2 : ByteArray) (z1 z2 : List Int) (w : World) (hF : F.answers w.tape) (hz1 : z1.length = n1) (hz2 : z2.length = n2) (hnil1 : a1 = none → n1 = 0 ∧ c1 = 0) (hnil2 : a2 = none → n2 = 0 ∧ c2 = 0)
    (hn1 : n1 ≤ 65536) (hs1 : s1.size ≤ 65536) (hn2 : n2 ≤ 65536) (hs2 : s2.size ≤ 65536) (hS1 : SB w a1 z1) (hS2 : SB w a2 z2) :
    Calls Tryf.prog 3 #[.slice a1 n1 c1, .int .i64 b1, .string s1, .slice a2 n2 c2, .int .i64 b2, .string s2] w fun e w' => e = .returned (.bool true) ∧ Below w.heap.size w w' := by
  have e1 : decide ((65536 : Int) < (n1 : Int)) = false := by simp; omega
  have e2 : decide ((65536 : Int) < (s1.size : Int)) = false := by simp; omega
  have e3 : decide ((65536 : Int) < (n2 : Int)) = false := by simp; omega
  have e4 : decide ((65536 : Int) < (s2.size : Int)) = false := by simp; omega
  go_enter Tryf.func3, Tryf.ntmps3
  go_wp2_with (go_at_call 6; refine (bytesD_ok _ _ _ _ _ _ _ _ _ _ _ hn1 hs1 hn2 hs2).mono ?_; rintro e w9 ⟨rfl, hw9⟩; obtain rfl := hw9.symm)
  refine (clone_any a1 n1 c1 z1 w hz1 (by omega) hnil1 hS1).mono ?_
  rintro e w1 ⟨x1, rfl, hX1, hg1, ha1, hv1⟩
  go_wp2_with fail
  refine (clone_any a2 n2 c2 z2 w1 hz2 (by omega) hnil2 (hS2.grown0 hg1)).mono ?_
  rintro e w2 ⟨x2, rfl, hX2, hg2, ha2, hv2⟩
  go_wp2_with fail
  refine (clone_any x1 n1 n1 z1 w2 hz1 (by omega) (fun h => ⟨hv1 h, hv1 h⟩) (hX1.grown0 hg2)).mono ?_
  rintro e w3 ⟨p1, rfl, hP1, hg3, ha3, hv3⟩
  go_wp2_with fail
  refine (clone_any x2 n2 n2 z2 w3 hz2 (by omega) (fun h => ⟨hv2 h, hv2 h⟩) (hX2.grown0 hg3)).mono ?_
  rintro e w4 ⟨p2, rfl, hP2, hg4, ha4, hv4⟩
  go_wp2_with fail
  refine (clone_any x2 n2 n2 z2 w4 hz2 (by omega) (fun h => ⟨hv2 h, hv2 h⟩) ((hX2.grown0 hg3).grown0 hg4)).mono ?_
  rintro e w5 ⟨q2, rfl, hQ2, hg5, ha5, hv5⟩
  have g1 := hg1.size
  have g2 := hg2.size
  have g3 := hg3.size
  have g4 := hg4.size
  have g5 := hg5.size
  have bb : Below w.heap.size w w5 := ((((below_none hg1 (Nat.le_refl _)).grown hg2 (by omega) (by simp)).grown hg3 (by omega) (by simp)).grown hg4 (by omega) (by simp)).grown hg5 (by omega) (by simp)
  have X2 : SB w5 x2 z2 := ((hX2.grown0 hg3).grown0 hg4).grown0 hg5
  have P1 : SB w5 p1 z1 := (hP1.grown0 hg4).grown0 hg5
  have P2 : SB w5 p2 z2 := hP2.grown0 hg5
  have lX2 : ∀ x, x2 = some x → x.block < w5.heap.size := fun x hx => by have := ha2.lt x hx; omega
  have lP1 : ∀ x, p1 = some x → x.block < w5.heap.size := fun x hx => by have := ha3.lt x hx; omega
  have lP2 : ∀ x, p2 = some x → x.block < w5.heap.size := fun x hx => by have := ha4.lt x hx; omega
  have lQ2 := ha5.lt
  clear hS1 hS2 hX1 hX2 hP1 hP2 hg1 hg2 hg3 hg4 hg5 ha1 ha2 ha3 ha4 ha5 hv1 hv2 hv3 hv4 hv5 g1 g2 g3 g4 g5 hnil1 hnil2
  have q1 := lead_le z1
  rw [hz1] at q1
  have q2' := lead_le z2
  rw [hz2] at q2'
  have apP1 : Apart p1 w5.heap.size := fun x hx => by have := lP1 x hx; omega
  have apP2 : Apart p2 w5.heap.size := fun x hx => by have := lP2 x hx; omega
  go_wp2_with fail
  -- s over d1
  refine (reset_any _ _ _ _ _ _ p1 n1 n1 b1 _ (Sc_new w5 30)).mono ?_
  rintro e v1 ⟨rfl, C1, k1⟩
  have k1' := (World.grownBy_alloc w5 _ (some w5.heap.size)).trans k1
  have B1 : Below w5.heap.size w5 v1 := below_row k1' (Nat.le_refl _) (Nat.le_refl _)
  clear k1 k1'
  go_wp2_with fail
  refine (skip_any _ p1 n1 n1 z1 b1 _ _ _ v1 hz1 (by omega) apP1 (P1.below B1 lP1) C1).mono ?_
  rintro e v2 ⟨rfl, C2, k2⟩
  have B2 : Below w5.heap.size w5 v2 := B1.grown k2 B1.size (by simp)
  clear k2 C1 B1
  go_wp2_with fail
  refine (fail_any F _ p1 n1 n1 z1 (lead z1) b1 _ _ _ s1 v2 (by rw [B2.tape, bb.tape]; exact hF) hz1 (by omega) hs1 q1 apP1 (P1.below B2 lP1) (.inl rfl) C2).mono ?_
  rintro e v3 ⟨rfl, ⟨er1, ie1, C3⟩, k3⟩
  have B3 : Below w5.heap.size w5 v3 := B2.grown k3 B2.size (by simp)
  clear k3 C2 B2
  go_wp2_with fail
  -- s over d2
  refine (reset_any _ _ _ _ _ _ p2 n2 n2 b2 v3 C3).mono ?_
  rintro e v4 ⟨rfl, C4, k4⟩
  have B4 : Below w5.heap.size w5 v4 := B3.grown k4 B3.size (by simp)
  clear k4 C3 B3
  go_wp2_with fail
  refine (skip_any _ p2 n2 n2 z2 b2 _ _ _ v4 hz2 (by omega) apP2 (P2.below B4 lP2) C4).mono ?_
  rintro e v5 ⟨rfl, C5, k5⟩
  have B5 : Below w5.heap.size w5 v5 := B4.grown k5 B4.size (by simp)
  clear k5 C4 B4
  go_wp2_with fail
  refine (fail_any F _ p2 n2 n2 z2 (lead z2) b2 _ _ _ s2 v5 (by rw [B5.tape, bb.tape]; exact hF) hz2 (by omega) hs2 q2' apP2 (P2.below B5 lP2) (.inl rfl) C5).mono ?_
  rintro e v6 ⟨rfl, ⟨er2, ie2, C6⟩, k6⟩
  have B6 : Below w5.heap.size w5 v6 := B5.grown k6 B5.size (by simp)
  clear k6 C5 B5
  have c6 := C6.lt
  have s6 := B6.size
  go_wp2_with fail
  -- t over d2
  have apQ2 : Apart q2 v6.heap.size := fun x hx => by have := lQ2 x hx; omega
  have Q6 : SB v6 q2 z2 := hQ2.below B6 lQ2
  have lQ6 : ∀ x, q2 = some x → x.block < v6.heap.size := fun x hx => by have := lQ2 x hx; omega
  refine (reset_any _ _ _ _ _ _ q2 n2 n2 b2 _ (Sc_new v6 30)).mono ?_
  rintro e v7 ⟨rfl, D7, k7⟩
  have k7' := (World.grownBy_alloc v6 _ (some v6.heap.size)).trans k7
  have B7 : Below v6.heap.size v6 v7 := below_row k7' (Nat.le_refl _) (Nat.le_refl _)
  clear k7 k7'
  go_wp2_with fail
  refine (skip_any _ q2 n2 n2 z2 b2 _ _ _ v7 hz2 (by omega) apQ2 (Q6.below B7 lQ6) D7).mono ?_
  rintro e v8 ⟨rfl, D8, k8⟩
  have B8 : Below v6.heap.size v6 v8 := B7.grown k8 B7.size (by simp)
  clear k8 D7 B7
  go_wp2_with fail
  refine (fail_any F _ q2 n2 n2 z2 (lead z2) b2 _ _ _ s2 v8 (by rw [B8.tape, B6.tape, bb.tape]; exact hF) hz2 (by omega) hs2 q2' apQ2 (Q6.below B8 lQ6) (.inl rfl) D8).mono ?_
  rintro e v9 ⟨rfl, ⟨er3, ie3, D9⟩, k9⟩
  have B9 : Below v6.heap.size v6 v9 := B8.grown k9 B8.size (by simp)
  clear k9 D8 B8
  have C9 := C6.below B9 c6
  have X9 : SB v9 x2 z2 := (X2.below B6 lX2).below B9 (fun x hx => by have := lX2 x hx; omega)
  have bl : Below w.heap.size w v9 := bb.trans ((B6.mono bb.size).trans (B9.mono (by have := bb.size; omega)))
  clear C6 B9 B6 Q6 lQ6 X2 P1 P2 hQ2 lX2 lP1 lP2 lQ2 apP1 apP2 apQ2 bb
  go_wp2_with fail
  refine (lead_any x2 n2 n2 z2 v9 hz2 (by omega) X9).mono ?_
  rintro e v10 ⟨rfl, hv10⟩
  obtain rfl := hv10.symm
  obtain ⟨y1, rfl⟩ := ie2
  obtain ⟨y2, rfl⟩ := ie3
  have nE := neqErr
  have xx : (b2 == b2) = true := by simp
  obtain ⟨i1, i2, i3, i4, i5⟩ : _ ∧ _ ∧ _ ∧ _ ∧ _ := ⟨C9.c1, C9.c2, C9.c3, C9.c4, C9.c5⟩
  obtain ⟨j1, j2, j3, j4, j5⟩ : _ ∧ _ ∧ _ ∧ _ ∧ _ := ⟨D9.c1, D9.c2, D9.c3, D9.c4, D9.c5⟩
  clear C9 D9 X9 hF hz1 hz2 c6 s6 q1 ie1
  generalize lead z2 = q at *
  have hqq : ((q : Int) == (q : Int)) = true := by simp
  by_cases hall : q = n2
  · obtain rfl : q = n2 := hall
    rw [show (false || (decide (q = q) && nilB Value.nilIface)) = true by simp [nilB]] at i4 j4
    go_wp2_with (first
      | (go_at_call 13; refine (pos_any _ _ _ (by assumption)).mono ?_; rintro e w' ⟨rfl, hw'⟩; obtain rfl := hw'.symm)
      | (go_at_call 15; refine (base_any _ _ _ (by assumption)).mono ?_; rintro e w' ⟨rfl, hw'⟩; obtain rfl := hw'.symm)
      | (go_at_call 12; refine (err_any _ _ _ (by assumption)).mono ?_; rintro e w' ⟨rfl, hw'⟩; obtain rfl := hw'.symm)
      | (go_at_call 14; refine (short_any _ _ _ (by assumption)).mono ?_; rintro e w' ⟨rfl, hw'⟩; obtain rfl := hw'.symm)
      | (go_at_call 16; refine (pathLen_any _ _ _ _ _ (by assumption)).mono ?_; rintro e w' ⟨rfl, hw'⟩; obtain rfl := hw'.symm))
    go_ret
    exact ⟨rfl, bl⟩
  · have hq : ((q : Int) == (n2 : Int)) = false := beq_eq_false_iff_ne.2 (by omega)
    rw [show (false || (decide (q = n2) && nilB Value.nilIface)) = false by simp [hall]] at i4 j4
    go_wp2_with (first
      | (go_at_call 13; refine (pos_any _ _ _ (by assumption)).mono ?_; rintro e w' ⟨rfl, hw'⟩; obtain rfl := hw'.symm)
      | (go_at_call 15; refine (base_any _ _ _ (by assumption)).mono ?_; rintro e w' ⟨rfl, hw'⟩; obtain rfl := hw'.symm)
      | (go_at_call 12; refine (err_any _ _ _ (by assumption)).mono ?_; rintro e w' ⟨rfl, hw'⟩; obtain rfl := hw'.symm)
      | (go_at_call 14; refine (short_any _ _ _ (by assumption)).mono ?_; rintro e w' ⟨rfl, hw'⟩; obtain rfl := hw'.symm)
      | (go_at_call 16; refine (pathLen_any _ _ _ _ _ (by assumption)).mono ?_; rintro e w' ⟨rfl, hw'⟩; obtain rfl := hw'.symm))
    go_ret
    exact ⟨rfl, bl⟩

end Go.Proofs.Qxb6618665aFmt
