/-
  FnFailSyntaxOneByteMoreMovesTheFailure: the main way.
-/
import Derived.Test.Qxb6618665aFmtLawC
namespace Go.Proofs.Qxb6618665aFmt
open Go.RowKit Go.Extern.Stop Go.Stop Go.Extern
set_option linter.unusedVariables false

set_option maxHeartbeats 2000000 in
theorem lawC_main (F : Interp) (a : Option Addr) (n c : Nat) (base : Int) (s : ByteArray) (z : Int) (zs : List Int) (w : World) (hF : F.answers w.tape) (hz : zs.length = n) (hnil : a = none → n = 0 ∧ c = 0) (hn : n ≤ 65536) (hs : s.size ≤ 65536) (hS : SB w a zs) :
    Calls Tryf.prog 5 #[.slice a n c, .int .i64 base, .string s, .int .u8 z] w fun e w' => e = .returned (.bool true) ∧ Below w.heap.size w w' := by
  have e1 : decide ((65536 : Int) < (n : Int)) = false := by simp; omega
  have e2 : decide ((65536 : Int) < (s.size : Int)) = false := by simp; omega
  have hmk := run_make_row' (P := Tryf.prog) 22 5 (.int .u8 0) 1 Tryf.underlying22 Tryf.info5 rfl .i64 .i64 (n + 1) (by omega) (by omega)
  have ec : ((n + 1 : Nat) : Int) = (n : Int) + 1 := by omega
  rw [ec] at hmk
  clear ec
  go_enter Tryf.func5, Tryf.ntmps5
  go_wp2_with (go_at_call 20; refine (bytesC_ok _ _ _ _ _ _ _ hn hs).mono ?_; rintro e w9 ⟨rfl, hw9⟩; obtain rfl := hw9.symm)
  refine (clone_any a n c zs _ hz (by omega) hnil hS).mono ?_
  rintro e w1 ⟨d1, rfl, hS1, hg1, ha1, hn1⟩
  go_wp2_with fail
  refine (clone_any d1 n n zs _ hz (by omega) (fun h => ⟨hn1 h, hn1 h⟩) hS1).mono ?_
  rintro e w2 ⟨pa, rfl, hS2, hg2, ha2, hn2⟩
  have b2 : Below w.heap.size w w2 := ((Below.refl _ w).grown hg1 (Nat.le_refl _) (by simp)).grown hg2 (by have := hg1.size; omega) (by simp)
  have d2 : SB w2 d1 zs := hS1.grown0 hg2
  have hlt1 : ∀ x, d1 = some x → x.block < w2.heap.size := fun x hx => Nat.lt_of_lt_of_le (ha1.lt x hx) hg2.size
  have hlt2 := ha2.lt
  have HK : Hid (Below w.heap.size w w2 ∧ SB w2 d1 zs ∧ SB w2 pa zs ∧ (∀ x, d1 = some x → x.block < w2.heap.size) ∧ (∀ x, pa = some x → x.block < w2.heap.size) ∧ F.answers w.tape ∧ zs.length = n) := ⟨b2, d2, hS2, hlt1, hlt2, hF, hz⟩
  obtain ⟨db, doff, hda, hdc⟩ : ∃ db doff, (0 < n → d1 = some ⟨db, doff, none⟩) ∧ ∀ i, i < n → w2.cell? ⟨db, doff + i, none⟩ = some (.int .u8 (zs.getD i 0)) := by
    rcases d2 with h | ⟨b', o', e', hc'⟩
    · subst h; exact ⟨0, 0, fun h => by simp at hz; omega, fun i hi => by simp at hz; omega⟩
    · exact ⟨b', o', fun _ => e', fun i hi => hc' i (by omega)⟩
  have HZ : Hid ((∀ i, i < n → w2.cell? ⟨db, doff + i, none⟩ = some (.int .u8 (zs.getD i 0))) ∧ (0 < n → d1 = some ⟨db, doff, none⟩)) := ⟨hdc, hda⟩
  clear hS hS1 hS2 hg1 hg2 ha1 ha2 hn1 hn2 b2 d2 hlt1 hlt2 hF hdc hda hz hnil
  go_wp2
  clear hmk
  go_loopw [11] (fun v wr => ∃ k : Nat, k ≤ n ∧ v = .int .i64 k ∧ wr.rowIs w2.heap.size 5 (n + 1) (fun j => .int .u8 (if j < k then zs.getD j 0 else 0)) ∧ w2.grownBy wr none) (fun v _ => n - (intOf v).toNat)
  case atStart => exact ⟨0, Nat.zero_le _, rfl, (World.rowIs_made w2 (.int .u8 0) (n + 1) 5).congr (fun i _ => by simp), World.grownBy_alloc w2 _ none⟩
  case round =>
    obtain ⟨k, hk, rfl, hrow, hg⟩ := hrel
    by_cases hlt : k < n
    · obtain ⟨Zk, hZk⟩ : ∃ Z, Z = zs.getD k 0 := ⟨_, rfl⟩
      obtain rfl := HZ.out.2 (by omega)
      have h1 : wr.cell? ⟨db, doff + k, none⟩ = some (.int .u8 Zk) := by rw [hZk]; exact hg.cell (HZ.out.1 k hlt) (by simp)
      have h2 : wr.cell? ⟨w2.heap.size, k, none⟩ = some (.int .u8 0) := by rw [hrow.cell (by omega)]; simp
      have h3 := hrow.frozen k
      have HR : Hid ((wr.setCell ⟨w2.heap.size, k, none⟩ (.int .u8 Zk)).rowIs w2.heap.size 5 (n + 1) (fun j => .int .u8 (if j < k + 1 then zs.getD j 0 else 0)) ∧ w2.grownBy (wr.setCell ⟨w2.heap.size, k, none⟩ (.int .u8 Zk)) none) := by
        refine ⟨(hrow.set k _).congr (fun j hj => ?_), ⟨hg.os, hg.tape, hg.output, by simpa [World.setCell] using hg.size, fun i hi h => (Below.heap_setCell _ _ _ _ (by simp; omega)).trans (hg.block i hi h)⟩⟩
        by_cases e : j = k
        · subst e; simp [hZk]
        · simp only [e, if_false]
          by_cases hj' : j < k
          · rw [if_pos hj', if_pos (by omega)]
          · rw [if_neg hj', if_neg (by omega)]
      have hkn : (k : Int) < (n : Int) + 1 := by omega
      clear hrow hg hZk
      go_wp2
      go_roundw
      case rel => exact ⟨k + 1, by omega, by go_num, HR.out.1, HR.out.2⟩
      case measure => simp [intOf]; omega
    · have h2 : wr.cell? ⟨w2.heap.size, n, none⟩ = some (.int .u8 0) := by rw [hrow.cell (by omega)]; simp; omega
      have h3 := hrow.frozen n
      obtain ⟨W5, hW5⟩ : ∃ W5, W5 = wr.setCell ⟨w2.heap.size, n, none⟩ (.int .u8 z) := ⟨_, rfl⟩
      have HR : Hid (SB W5 (some ⟨w2.heap.size, 0, none⟩) (zs ++ [z]) ∧ w2.grownBy W5 none ∧ w2.heap.size < W5.heap.size) := by
        have hrl := hrow.lt
        subst hW5
        refine ⟨.inr ⟨_, 0, rfl, fun j hj => ?_⟩, ⟨hg.os, hg.tape, hg.output, by simpa [World.setCell] using hg.size, fun i hi h => (Below.heap_setCell _ _ _ _ (by simp; omega)).trans (hg.block i hi h)⟩, by simpa [World.setCell] using hrl⟩
        have hz := HK.out.2.2.2.2.2.2
        simp [hz] at hj
        rw [Nat.zero_add, (hrow.set n (.int .u8 z)).cell hj]
        by_cases e : j = n
        · subst e; simp [List.getD, ← hz]
        · have : j < zs.length := by omega
          simp only [e, if_false]
          rw [if_pos (by omega)]
          simp [List.getD, List.getElem?_append, this]
      have hnn : (n : Int) < (n : Int) + 1 := by omega
      clear hrow hg
      have HW : Hid (W5 = wr.setCell ⟨w2.heap.size, n, none⟩ (.int .u8 z)) := hW5
      clear hW5
      go_wp2_with fail
      have hsz : wr.heap.size = W5.heap.size := by rw [HW.out]; simp [World.setCell]
      rw [← HW.out, hsz]
      clear HW hsz h2 h3
      obtain ⟨hb2, hd2, hp2, hl1, hl2, hF, hz⟩ := HK.out
      obtain ⟨hE5, hg5, hl5⟩ := HR.out
      have hp5 : SB W5 pa zs := hp2.grown0 hg5
      have hd5 : SB W5 d1 zs := hd2.grown0 hg5
      have hb5 : Below w.heap.size w W5 := hb2.grown hg5 (by have := hb2.size; omega) (by simp)
      have hl1' : ∀ x, d1 = some x → x.block < W5.heap.size := fun x hx => by have := hl1 x hx; omega
      have hl2' : ∀ x, pa = some x → x.block < W5.heap.size := fun x hx => by have := hl2 x hx; omega
      clear hb2 hd2 hp2 hl1 hl2 hg5 HK HR HZ
      -- the scanner s
      refine (reset_any _ _ _ _ _ _ pa n n base _ (Sc_new W5 30)).mono ?_
      rintro e w6 ⟨rfl, hC6, hg6⟩
      have hg6' := (World.grownBy_alloc W5 _ (some W5.heap.size)).trans hg6
      clear hg6
      have b6 : Below W5.heap.size W5 w6 := below_row hg6' (Nat.le_refl _) (Nat.le_refl _)
      have ap2 : Apart pa W5.heap.size := fun x hx => by have := hl2' x hx; omega
      go_wp2_with fail
      refine (skip_any _ pa n n zs base _ _ _ w6 hz (by omega) ap2 (hp5.below b6 hl2') hC6).mono ?_
      rintro e w7 ⟨rfl, hC7, hg7⟩
      have b7 : Below W5.heap.size W5 w7 := b6.grown hg7 (by have := b6.size; omega) (by simp)
      have q1 := lead_le zs
      rw [hz] at q1
      go_wp2_with fail
      refine (fail_any F _ pa n n zs (lead zs) base _ _ _ s w7 (by rw [b7.tape, hb5.tape]; exact hF) hz (by omega) hs q1 ap2 (hp5.below b7 hl2') (.inl rfl) hC7).mono ?_
      rintro e w8 ⟨rfl, ⟨er1, ie1, hC8⟩, hg8⟩
      have b8 : Below W5.heap.size W5 w8 := b7.grown hg8 (by have := b7.size; omega) (by simp)
      clear hC6 hC7 b6 b7 hg6' hg7 hg8
      go_wp2_with fail
      -- the scanner t
      have hze : (zs ++ [z]).length = n + 1 := by simp [hz]
      have hle : ∀ x, (some (⟨w2.heap.size, 0, none⟩ : Addr)) = some x → x.block < W5.heap.size := fun x hx => by cases hx; exact hl5
      have s8 := b8.size
      have c8 := hC8.lt
      refine (reset_any _ _ _ _ _ _ (some ⟨w2.heap.size, 0, none⟩) (n + 1) (n + 1) base _ (Sc_new w8 30)).mono ?_
      rintro e w10 ⟨rfl, hD10, hg10⟩
      have hg10' := (World.grownBy_alloc w8 _ (some w8.heap.size)).trans hg10
      clear hg10
      have b10 : Below w8.heap.size w8 w10 := below_row hg10' (Nat.le_refl _) (Nat.le_refl _)
      have ape : Apart (some (⟨w2.heap.size, 0, none⟩ : Addr)) w8.heap.size := fun x hx => by have := hle x hx; omega
      have hE8 : SB w8 (some ⟨w2.heap.size, 0, none⟩) (zs ++ [z]) := hE5.below b8 hle
      have hle8 : ∀ x, (some (⟨w2.heap.size, 0, none⟩ : Addr)) = some x → x.block < w8.heap.size := fun x hx => by have := hle x hx; omega
      go_wp2_with fail
      refine (skip_any _ _ (n + 1) (n + 1) (zs ++ [z]) base _ _ _ w10 hze (by omega) ape (hE8.below b10 hle8) hD10).mono ?_
      rintro e w11 ⟨rfl, hD11, hg11⟩
      have b11 : Below w8.heap.size w8 w11 := b10.grown hg11 (by have := b10.size; omega) (by simp)
      have q2 := lead_le (zs ++ [z])
      rw [hze] at q2
      go_wp2_with fail
      refine (fail_any F _ _ (n + 1) (n + 1) (zs ++ [z]) (lead (zs ++ [z])) base _ _ _ s w11 (by rw [b11.tape, b8.tape, hb5.tape]; exact hF) hze (by omega) hs q2 ape (hE8.below b11 hle8) (.inl rfl) hD11).mono ?_
      rintro e w12 ⟨rfl, ⟨er2, ie2, hD12⟩, hg12⟩
      have b12 : Below w8.heap.size w8 w12 := b11.grown hg12 (by have := b11.size; omega) (by simp)
      have hC12 := hC8.below b12 c8
      have hd12 : SB w12 d1 zs := (hd5.below b8 hl1').below b12 (fun x hx => by have := hl1' x hx; omega)
      have bl : Below w.heap.size w w12 := hb5.trans ((b8.mono hb5.size).trans (b12.mono (by have := hb5.size; omega)))
      clear hD10 hD11 b10 b11 hg10' hg11 hg12 hE8 hle8 hE5 hd5 hp5 hb5 b8 b12 hC8
      go_wp2_with fail
      refine (lead_any d1 n n zs w12 hz (by omega) hd12).mono ?_
      rintro e w13 ⟨rfl, hw13⟩
      obtain rfl := hw13.symm
      obtain ⟨x1, rfl⟩ := ie1
      obtain ⟨x2, rfl⟩ := ie2
      rw [lead_snoc, hz] at hD12
      have nE := neqErr
      have xx : (base == base) = true := by simp
      obtain ⟨i1, i2, i3, i4⟩ : _ ∧ _ ∧ _ ∧ _ := ⟨hC12.c1, hC12.c2, hC12.c3, hC12.c4⟩
      obtain ⟨j1, j2, j3, j4⟩ : _ ∧ _ ∧ _ ∧ _ := ⟨hD12.c1, hD12.c2, hD12.c3, hD12.c4⟩
      clear hC12 hD12 hd12 hl1' hl2' ap2 ape hle hF hz hze q2 c8 s8 hl5
      generalize lead zs = q at *
      by_cases hall : q = n
      · obtain rfl : q = n := hall
        have hq : ((q : Int) == (q : Int)) = true := by simp
        have y4 : (false || (decide (q = q) && nilB Value.nilIface)) = true := by simp [nilB]
        rw [y4] at i4
        by_cases hsp : isSp z = true
        · rw [if_pos ⟨rfl, hsp⟩] at j1 j4
          rw [show (false || (decide (q + 1 = q + 1) && nilB Value.nilIface)) = true by simp [nilB]] at j4
          rw [show ((q + 1 : Nat) : Int) = (q : Int) + 1 by omega] at j1
          go_wp2_with (first
            | (go_at_call 21; refine (space_any _ _).mono ?_; rintro e w' ⟨rfl, hw'⟩; obtain rfl := hw'.symm; rw [hsp])
            | (go_at_call 13; refine (pos_any _ _ _ (by assumption)).mono ?_; rintro e w' ⟨rfl, hw'⟩; obtain rfl := hw'.symm)
            | (go_at_call 15; refine (base_any _ _ _ (by assumption)).mono ?_; rintro e w' ⟨rfl, hw'⟩; obtain rfl := hw'.symm)
            | (go_at_call 12; refine (err_any _ _ _ (by assumption)).mono ?_; rintro e w' ⟨rfl, hw'⟩; obtain rfl := hw'.symm)
            | (go_at_call 14; refine (short_any _ _ _ (by assumption)).mono ?_; rintro e w' ⟨rfl, hw'⟩; obtain rfl := hw'.symm))
          go_ret
          exact ⟨rfl, bl⟩
        · simp only [Bool.not_eq_true] at hsp
          rw [if_neg (by rw [hsp]; simp)] at j1 j4
          rw [show (false || (decide (q = q + 1) && nilB Value.nilIface)) = false by simp] at j4
          go_wp2_with (first
            | (go_at_call 21; refine (space_any _ _).mono ?_; rintro e w' ⟨rfl, hw'⟩; obtain rfl := hw'.symm; rw [hsp])
            | (go_at_call 13; refine (pos_any _ _ _ (by assumption)).mono ?_; rintro e w' ⟨rfl, hw'⟩; obtain rfl := hw'.symm)
            | (go_at_call 15; refine (base_any _ _ _ (by assumption)).mono ?_; rintro e w' ⟨rfl, hw'⟩; obtain rfl := hw'.symm)
            | (go_at_call 12; refine (err_any _ _ _ (by assumption)).mono ?_; rintro e w' ⟨rfl, hw'⟩; obtain rfl := hw'.symm)
            | (go_at_call 14; refine (short_any _ _ _ (by assumption)).mono ?_; rintro e w' ⟨rfl, hw'⟩; obtain rfl := hw'.symm))
          go_ret
          exact ⟨rfl, bl⟩
      · have hq : ((q : Int) == (n : Int)) = false := beq_eq_false_iff_ne.2 (by omega)
        rw [if_neg (fun h => hall h.1)] at j1 j4
        rw [show (false || (decide (q = n + 1) && nilB Value.nilIface)) = false by simp; omega] at j4
        rw [show (false || (decide (q = n) && nilB Value.nilIface)) = false by simp [hall]] at i4
        have hqq : ((q : Int) == (q : Int)) = true := by simp
        go_wp2_with (first
          | (go_at_call 13; refine (pos_any _ _ _ (by assumption)).mono ?_; rintro e w' ⟨rfl, hw'⟩; obtain rfl := hw'.symm)
          | (go_at_call 15; refine (base_any _ _ _ (by assumption)).mono ?_; rintro e w' ⟨rfl, hw'⟩; obtain rfl := hw'.symm)
          | (go_at_call 12; refine (err_any _ _ _ (by assumption)).mono ?_; rintro e w' ⟨rfl, hw'⟩; obtain rfl := hw'.symm)
          | (go_at_call 14; refine (short_any _ _ _ (by assumption)).mono ?_; rintro e w' ⟨rfl, hw'⟩; obtain rfl := hw'.symm))
        go_ret
        exact ⟨rfl, bl⟩

end Go.Proofs.Qxb6618665aFmt
