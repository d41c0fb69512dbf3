/-
  FnFailSyntaxFirstFailureKeepsShort: the law's own walk.
-/
import Derived.Test.Qxb6618665aFmtLawC
namespace Go.Proofs.Qxb6618665aFmt
open Go.RowKit Go.Extern.Stop Go.Stop Go.Extern
set_option linter.unusedVariables false

set_option maxHeartbeats 1000000 in
theorem lawE_out (a : Option Addr) (n c : Nat) (b : Int) (s1 s2 : ByteArray) (w : World) (hm : n ≤ maxLen) (hs1 : s1.size ≤ maxLen) (hs2 : s2.size ≤ maxLen)
    (h : 65536 < n ∨ 65536 < s1.size ∨ 65536 < s2.size) : Calls Tryf.prog 4 #[.slice a n c, .int .i64 b, .string s1, .string s2] w fun e w' => e = .returned (.bool true) ∧ w' = w := by
  unfold maxLen at hm hs1 hs2
  by_cases h0 : 1048576 < n
  · go_enter Tryf.func4, Tryf.ntmps4
    go_wp2
    go_ret
    exact ⟨rfl, rfl⟩
  by_cases h1 : 1048576 < s1.size
  · go_enter Tryf.func4, Tryf.ntmps4
    go_wp2
    go_ret
    exact ⟨rfl, rfl⟩
  by_cases h2 : 1048576 < n + s1.size
  · go_enter Tryf.func4, Tryf.ntmps4
    go_wp2
    go_ret
    exact ⟨rfl, rfl⟩
  by_cases h3 : 1048576 < s2.size
  · go_enter Tryf.func4, Tryf.ntmps4
    go_wp2
    go_ret
    exact ⟨rfl, rfl⟩
  by_cases h4 : 1048576 < n + s1.size + s2.size
  · go_enter Tryf.func4, Tryf.ntmps4
    go_wp2
    go_ret
    exact ⟨rfl, rfl⟩
  by_cases h5 : 65536 < n
  · go_enter Tryf.func4, Tryf.ntmps4
    go_wp2
    go_ret
    exact ⟨rfl, rfl⟩
  by_cases h6 : 65536 < s1.size
  · go_enter Tryf.func4, Tryf.ntmps4
    go_wp2
    go_ret
    exact ⟨rfl, rfl⟩
  have hl : 65536 < s2.size := by omega
  go_enter Tryf.func4, Tryf.ntmps4
  go_wp2
  go_ret
  exact ⟨rfl, rfl⟩

theorem bytesE_ok (a : Option Addr) (n c : Nat) (b : Int) (s1 s2 : ByteArray) (w : World) (hn : n ≤ 65536) (hs1 : s1.size ≤ 65536) (hs2 : s2.size ≤ 65536) :
    Calls Tryf.prog 17 #[.slice a n c, .int .i64 b, .string s1, .string s2] w fun e w' => e = .returned (.bool true) ∧ w' = w := by
  go_enter Tryf.func17, Tryf.ntmps17
  go_wp2
  go_ret
  exact ⟨rfl, rfl⟩

theorem below_draws {B : Nat} {w w' : World} {k : Nat} (h : Below B w w') : Below B w (w'.drewN k) := ⟨h.os, h.tape, h.output, h.size, h.block⟩

set_option maxHeartbeats 2000000 in
theorem lawE_main (F : Interp) (a : Option Addr) (n c : Nat) (b : Int) (s1 s2 : ByteArray) (zs : List Int) (w : World) (hF : F.answers w.tape) (hz : zs.length = n) (hnil : a = none → n = 0 ∧ c = 0)
    (hn : n ≤ 65536) (hs1 : s1.size ≤ 65536) (hs2 : s2.size ≤ 65536) (hS : SB w a zs) :
    Calls Tryf.prog 4 #[.slice a n c, .int .i64 b, .string s1, .string s2] w fun e w' => e = .returned (.bool true) ∧ Below w.heap.size w w' := by
  have e1 : decide ((65536 : Int) < (n : Int)) = false := by simp; omega
  have e2 : decide ((65536 : Int) < (s1.size : Int)) = false := by simp; omega
  have e4 : decide ((65536 : Int) < (s2.size : Int)) = false := by simp; omega
  go_enter Tryf.func4, Tryf.ntmps4
  go_wp2_with (go_at_call 17; refine (bytesE_ok _ _ _ _ _ _ _ hn hs1 hs2).mono ?_; rintro e w9 ⟨rfl, hw9⟩; obtain rfl := hw9.symm)
  refine (clone_any a n c zs w hz (by omega) hnil hS).mono ?_
  rintro e w1 ⟨x1, rfl, hX1, hg1, ha1, hv1⟩
  go_wp2_with fail
  refine (clone_any x1 n n zs w1 hz (by omega) (fun h => ⟨hv1 h, hv1 h⟩) hX1).mono ?_
  rintro e w2 ⟨p1, rfl, hP1, hg2, ha2, hv2⟩
  go_wp2_with fail
  refine (clone_any x1 n n zs w2 hz (by omega) (fun h => ⟨hv1 h, hv1 h⟩) (hX1.grown0 hg2)).mono ?_
  rintro e w5 ⟨q2, rfl, hQ2, hg5, ha5, hv5⟩
  have g1 := hg1.size
  have g2 := hg2.size
  have g5 := hg5.size
  have bb : Below w.heap.size w w5 := ((below_none hg1 (Nat.le_refl _)).grown hg2 (by omega) (by simp)).grown hg5 (by omega) (by simp)
  have X1 : SB w5 x1 zs := (hX1.grown0 hg2).grown0 hg5
  have P1 : SB w5 p1 zs := hP1.grown0 hg5
  have lX1 : ∀ x, x1 = some x → x.block < w5.heap.size := fun x hx => by have := ha1.lt x hx; omega
  have lP1 : ∀ x, p1 = some x → x.block < w5.heap.size := fun x hx => by have := ha2.lt x hx; omega
  have lQ2 := ha5.lt
  clear hS hX1 hP1 hg1 hg2 hg5 ha1 ha2 ha5 hv1 hv2 hv5 g1 g2 g5 hnil
  have q1 := lead_le zs
  rw [hz] at q1
  have apP1 : Apart p1 w5.heap.size := fun x hx => by have := lP1 x hx; omega
  go_wp2_with fail
  -- s: a failure at the start
  refine (reset_any _ _ _ _ _ _ p1 n n b _ (Sc_new w5 30)).mono ?_
  rintro e v1 ⟨rfl, C1, k1⟩
  have k1' := (World.grownBy_alloc w5 _ (some w5.heap.size)).trans k1
  have B1 : Below w5.heap.size w5 v1 := below_row k1' (Nat.le_refl _) (Nat.le_refl _)
  clear k1 k1'
  go_wp2_with fail
  refine (fail_any F _ p1 n n zs 0 b _ _ _ s1 v1 (by rw [B1.tape, bb.tape]; exact hF) hz (by omega) hs1 (by omega) apP1 (P1.below B1 lP1) (.inl rfl) C1).mono ?_
  rintro e v2 ⟨rfl, ⟨er1, ie1, C2⟩, k2⟩
  have B2 : Below w5.heap.size w5 v2 := B1.grown k2 B1.size (by simp)
  clear k2 C1 B1
  go_wp2_with fail
  -- then SkipSpace, then a second failure
  refine (skip_any _ p1 n n zs b _ _ _ v2 hz (by omega) apP1 (P1.below B2 lP1) C2).mono ?_
  rintro e v3 ⟨rfl, C3, k3⟩
  have B3 : Below w5.heap.size w5 v3 := B2.grown k3 B2.size (by simp)
  clear k3 C2 B2
  go_wp2_with fail
  refine (fail_any F _ p1 n n zs (lead zs) b _ _ _ s2 v3 (by rw [B3.tape, bb.tape]; exact hF) hz (by omega) hs2 q1 apP1 (P1.below B3 lP1) (.inr ie1) C3).mono ?_
  rintro e v6 ⟨rfl, ⟨er2, ie2, C6⟩, k6⟩
  have B6 : Below w5.heap.size w5 v6 := B3.grown k6 B3.size (by simp)
  clear k6 C3 B3
  have c6 := C6.lt
  have s6 := B6.size
  go_wp2_with fail
  -- t
  have apQ2 : Apart q2 v6.heap.size := fun x hx => by have := lQ2 x hx; omega
  have Q6 : SB v6 q2 zs := hQ2.below B6 lQ2
  have lQ6 : ∀ x, q2 = some x → x.block < v6.heap.size := fun x hx => by have := lQ2 x hx; omega
  refine (reset_any _ _ _ _ _ _ q2 n n b _ (Sc_new v6 30)).mono ?_
  rintro e v7 ⟨rfl, D7, k7⟩
  have k7' := (World.grownBy_alloc v6 _ (some v6.heap.size)).trans k7
  have B7 : Below v6.heap.size v6 v7 := below_row k7' (Nat.le_refl _) (Nat.le_refl _)
  clear k7 k7'
  go_wp2_with fail
  refine (skip_any _ q2 n n zs b _ _ _ v7 hz (by omega) apQ2 (Q6.below B7 lQ6) D7).mono ?_
  rintro e v8 ⟨rfl, D8, k8⟩
  have B8 : Below v6.heap.size v6 v8 := B7.grown k8 B7.size (by simp)
  clear k8 D7 B7
  go_wp2_with fail
  refine (fail_any F _ q2 n n zs (lead zs) b _ _ _ s2 v8 (by rw [B8.tape, B6.tape, bb.tape]; exact hF) hz (by omega) hs2 q1 apQ2 (Q6.below B8 lQ6) (.inl rfl) D8).mono ?_
  rintro e v9 ⟨rfl, ⟨er3, ie3, D9⟩, k9⟩
  have B9 : Below v6.heap.size v6 v9 := B8.grown k9 B8.size (by simp)
  clear k9 D8 B8
  have C9 := C6.below B9 c6
  have X9 : SB v9 x1 zs := (X1.below B6 lX1).below B9 (fun x hx => by have := lX1 x hx; omega)
  have P9 : SB v9 p1 zs := (P1.below B6 lP1).below B9 (fun x hx => by have := lP1 x hx; omega)
  have bl : Below w.heap.size w v9 := bb.trans ((B6.mono bb.size).trans (B9.mono (by have := bb.size; omega)))
  clear C6 B9 B6 Q6 lQ6 X1 P1 hQ2 lX1 lP1 lQ2 apP1 apQ2 bb
  go_wp2_with fail
  refine (lead_any x1 n n zs v9 hz (by omega) X9).mono ?_
  rintro e v10 ⟨rfl, hv10⟩
  obtain rfl := hv10.symm
  obtain ⟨y0, rfl⟩ := ie1
  obtain ⟨y1, rfl⟩ := ie2
  obtain ⟨y2, rfl⟩ := ie3
  have nE := neqErr
  have xx : (b == b) = true := by simp
  obtain ⟨i0, i1, i2, i3, i4⟩ : _ ∧ _ ∧ _ ∧ _ ∧ _ := ⟨C9.c0, C9.c1, C9.c2, C9.c3, C9.c4⟩
  obtain ⟨j1, j3, j4⟩ : _ ∧ _ ∧ _ := ⟨D9.c1, D9.c3, D9.c4⟩
  have HE : Hid (SB v9 x1 zs ∧ SB v9 p1 zs ∧ zs.length = n) := ⟨X9, P9, hz⟩
  clear C9 D9 X9 P9 hF hz c6 s6
  generalize lead zs = q at *
  have hqq : ((q : Int) == (q : Int)) = true := by simp
  have hsh : ((false || (decide (0 = n) && nilB Value.nilIface)) || (decide (q = n) && nilB (.iface 46 (.pointer (some y0))))) = decide (n = 0) := by
    by_cases h0 : n = 0
    · simp [nilB, h0]
    · simp [nilB, h0]; omega
  rw [hsh] at i4
  clear hsh
  by_cases h0 : n = 0
  · have z0 : ((n : Int) == 0) = true := by simp [h0]
    rw [show decide (n = 0) = true by simp [h0]] at i4
    have hqn : ((q : Int) == (n : Int)) = true := beq_iff_eq.2 (by omega)
    rw [show (false || (decide (q = n) && nilB Value.nilIface)) = true by simp [nilB]; omega] at j4
    clear h0
    go_wp2_with (first
      | (go_at_call 13; refine (pos_any _ _ _ (by first | assumption | exact j1)).mono ?_; rintro e w' ⟨rfl, hw'⟩; obtain rfl := hw'.symm)
      | (go_at_call 15; refine (base_any _ _ _ (by assumption)).mono ?_; rintro e w' ⟨rfl, hw'⟩; obtain rfl := hw'.symm)
      | (go_at_call 12; refine (err_any _ _ _ (by first | assumption | exact j3)).mono ?_; rintro e w' ⟨rfl, hw'⟩; obtain rfl := hw'.symm)
      | (go_at_call 14; refine (short_any _ _ _ (by first | assumption | exact j4)).mono ?_; rintro e w' ⟨rfl, hw'⟩; obtain rfl := hw'.symm)
      | (go_at_call 19; refine (data_any _ _ _ (by assumption)).mono ?_; rintro e w' ⟨rfl, hw'⟩; obtain rfl := hw'.symm)
      | (go_at_call 18; refine (eq_any _ _ _ _ _ zs _ HE.out.2.2 (by omega) HE.out.2.1 HE.out.1).mono ?_; rintro e w' ⟨rfl, nn, rfl⟩))
    go_ret
    exact ⟨rfl, below_draws bl⟩
  · have z0 : ((n : Int) == 0) = false := beq_eq_false_iff_ne.2 (by omega)
    rw [show decide (n = 0) = false by simp [h0]] at i4
    by_cases hall : q = n
    · have hqn : ((q : Int) == (n : Int)) = true := beq_iff_eq.2 (by omega)
      rw [show (false || (decide (q = n) && nilB Value.nilIface)) = true by simp [nilB, hall]] at j4
      clear h0 hall
      go_wp2_with (first
        | (go_at_call 13; refine (pos_any _ _ _ (by first | assumption | exact j1)).mono ?_; rintro e w' ⟨rfl, hw'⟩; obtain rfl := hw'.symm)
        | (go_at_call 15; refine (base_any _ _ _ (by assumption)).mono ?_; rintro e w' ⟨rfl, hw'⟩; obtain rfl := hw'.symm)
        | (go_at_call 12; refine (err_any _ _ _ (by first | assumption | exact j3)).mono ?_; rintro e w' ⟨rfl, hw'⟩; obtain rfl := hw'.symm)
        | (go_at_call 14; refine (short_any _ _ _ (by first | assumption | exact j4)).mono ?_; rintro e w' ⟨rfl, hw'⟩; obtain rfl := hw'.symm)
        | (go_at_call 19; refine (data_any _ _ _ (by assumption)).mono ?_; rintro e w' ⟨rfl, hw'⟩; obtain rfl := hw'.symm)
        | (go_at_call 18; refine (eq_any _ _ _ _ _ zs _ HE.out.2.2 (by omega) HE.out.2.1 HE.out.1).mono ?_; rintro e w' ⟨rfl, nn, rfl⟩))
      go_ret
      exact ⟨rfl, below_draws bl⟩
    · have hqn : ((q : Int) == (n : Int)) = false := beq_eq_false_iff_ne.2 (by omega)
      rw [show (false || (decide (q = n) && nilB Value.nilIface)) = false by simp [hall]] at j4
      clear h0
      go_wp2_with (first
        | (go_at_call 13; refine (pos_any _ _ _ (by first | assumption | exact j1)).mono ?_; rintro e w' ⟨rfl, hw'⟩; obtain rfl := hw'.symm)
        | (go_at_call 15; refine (base_any _ _ _ (by assumption)).mono ?_; rintro e w' ⟨rfl, hw'⟩; obtain rfl := hw'.symm)
        | (go_at_call 12; refine (err_any _ _ _ (by first | assumption | exact j3)).mono ?_; rintro e w' ⟨rfl, hw'⟩; obtain rfl := hw'.symm)
        | (go_at_call 14; refine (short_any _ _ _ (by first | assumption | exact j4)).mono ?_; rintro e w' ⟨rfl, hw'⟩; obtain rfl := hw'.symm)
        | (go_at_call 19; refine (data_any _ _ _ (by assumption)).mono ?_; rintro e w' ⟨rfl, hw'⟩; obtain rfl := hw'.symm)
        | (go_at_call 18; refine (eq_any _ _ _ _ _ zs _ HE.out.2.2 (by omega) HE.out.2.1 HE.out.1).mono ?_; rintro e w' ⟨rfl, nn, rfl⟩))
      go_ret
      exact ⟨rfl, below_draws bl⟩

end Go.Proofs.Qxb6618665aFmt
