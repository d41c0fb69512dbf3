/-
  The walks of the Scanner's methods: Reset, SkipSpace.
-/
import Derived.Test.Qxb6618665aFmtFnsA
import Derived.Deep.LoopGhost
namespace Go.Proofs.Qxb6618665aFmt
open Go.RowKit

theorem reset_world {w : World} {b : Nat} {d0 : Value} {p0 b0 : Int} {e0 : Value} {s0 : Bool} {pa : Value} (h : Sc w b d0 p0 b0 e0 s0 pa) (d : Value) (p base : Int) (e : Value) (s : Bool) (pa' : Value) :
    Sc ((((((w.setCell ⟨b, 0, none⟩ d).setCell ⟨b, 1, none⟩ (.int .i64 p)).setCell ⟨b, 2, none⟩ (.int .i64 base)).setCell ⟨b, 3, none⟩ e).setCell ⟨b, 4, none⟩ (.bool s)).setCell ⟨b, 5, none⟩ pa') b d p base e s pa' ∧
    w.grownBy ((((((w.setCell ⟨b, 0, none⟩ d).setCell ⟨b, 1, none⟩ (.int .i64 p)).setCell ⟨b, 2, none⟩ (.int .i64 base)).setCell ⟨b, 3, none⟩ e).setCell ⟨b, 4, none⟩ (.bool s)).setCell ⟨b, 5, none⟩ pa') (some b) := by
  refine ⟨(((((h.setD d).setPos p).setBase base).setErr e).setSh s).setPa pa', ?_⟩
  exact (((((grownBy_setCell w b 0 _).trans (grownBy_setCell _ b 1 _)).trans (grownBy_setCell _ b 2 _)).trans (grownBy_setCell _ b 3 _)).trans (grownBy_setCell _ b 4 _)).trans (grownBy_setCell _ b 5 _)

set_option maxHeartbeats 400000 in
theorem reset_any (b : Nat) (d0 : Value) (p0 b0 : Int) (e0 : Value) (s0 : Bool) (a : Option Addr) (n c : Nat) (base : Int) (w : World) (h : Sc w b d0 p0 b0 e0 s0 (.slice none 0 0)) :
    Calls Tryf.prog 8 #[.pointer (some ⟨b, 0, none⟩), .slice a n c, .int .i64 base] w fun e w' => e = .returned (.tuple #[]) ∧ Sc w' b (.slice a n c) 0 base .nilIface false (.slice none 0 0) ∧ w.grownBy w' (some b) := by
  have HW : Hid _ := reset_world h (.slice a n c) 0 base .nilIface false (.slice none 0 0)
  obtain ⟨c0, c1, c2, c3, c4, c5, fz⟩ := h
  have f0 := fz 0
  have f1 := fz 1
  have f2 := fz 2
  have f3 := fz 3
  have f4 := fz 4
  have f5 := fz 5
  go_enter Tryf.func8, Tryf.ntmps8
  go_wp2
  go_end0
  exact ⟨rfl, HW.out.1, HW.out.2⟩

/-- SkipSpace over a row of n bytes, from place p0 on. -/
theorem skip_core (b : Nat) (da : Option Addr) (db doff n c : Nat) (Z : Nat → Int) (p0 : Nat) (base : Int) (err : Value) (sh : Bool) (pa : Value) (w : World) (hn : n ≤ 1048576) (hp : p0 ≤ n) (hne : db ≠ b)
    (hda : 0 < n → da = some ⟨db, doff, none⟩)
    (h : Sc w b (.slice da n c) p0 base err sh pa) (hc : ∀ i, i < n → w.cell? ⟨db, doff + i, none⟩ = some (.int .u8 (Z i))) :
    Calls Tryf.prog 9 #[.pointer (some ⟨b, 0, none⟩)] w fun e w' => e = .returned (.tuple #[]) ∧ (∃ k : Nat, p0 ≤ k ∧ k ≤ n ∧ (∀ i, p0 ≤ i → i < k → isSp (Z i) = true) ∧ (k < n → isSp (Z k) = false) ∧ Sc w' b (.slice da n c) k base err sh pa) ∧ w.grownBy w' (some b) := by
  go_enter Tryf.func9, Tryf.ntmps9
  go_wp2
  go_loopg [22] (n - p0) (fun g _ wr => ∃ k : Nat, g = n - k ∧ p0 ≤ k ∧ k ≤ n ∧ (∀ i, p0 ≤ i → i < k → isSp (Z i) = true) ∧ Sc wr b (.slice da n c) k base err sh pa ∧ w.grownBy wr (some b))
  case atStart => exact ⟨p0, rfl, Nat.le_refl _, hp, fun i h1 h2 => by omega, h, World.grownBy.refl _ _⟩
  case round =>
    obtain ⟨k, hgk, hpk, hk, hsp, hS, hg⟩ := hrel
    have c0 := hS.c0
    have c1 := hS.c1
    have f1 := hS.fz 1
    by_cases hlt : k < n
    · have hd := hda (by omega)
      subst hd
      have hz : wr.cell? ⟨db, doff + k, none⟩ = some (.int .u8 (Z k)) := hg.cell (hc k hlt) (by simpa using hne)
      have hlt' : (k : Int) < (n : Int) := by omega
      have HG : Hid (gk = n - k) := hgk
      have HS : Hid (Sc wr b (.slice (some ⟨db, doff, none⟩) n c) k base err sh pa ∧ w.grownBy wr (some b) ∧ ∀ i, p0 ≤ i → i < k → isSp (Z i) = true) := ⟨hS, hg, hsp⟩
      clear hgk hS hg hsp hda hc h
      go_wp2
      go_quiet (fail)
      go_wp2
      go_quiet (fail)
      go_wp2
      iterate 4
        · have hz : isSp (Z k) = true := by simp [isSp, *]
          obtain ⟨hS, hg, hsp⟩ := HS.out
          have hgk := HG.out
          go_roundg (n - (k + 1))
          case measure => omega
          case rel => exact ⟨k + 1, rfl, by omega, by omega, (fun i h1 h2 => by rcases Nat.lt_succ_iff_lt_or_eq.1 h2 with h | h; exact hsp i h1 h; rw [h]; exact hz), (hS.of_block (w' := wr.drewN _) rfl).setPos _, (hg.trans (grownBy_setCell wr b 1 _)).trans ⟨rfl, rfl, rfl, Nat.le_refl _, fun _ _ _ => rfl⟩⟩
      have hz : isSp (Z k) = false := by simp [isSp, *]
      obtain ⟨hS, hg, hsp⟩ := HS.out
      refine bodyPost_ret (results_none rfl _ _ _) rfl ?_
      exact ⟨rfl, ⟨k, hpk, hk, hsp, fun _ => hz, hS.of_block rfl⟩, hg.trans ⟨rfl, rfl, rfl, Nat.le_refl _, fun _ _ _ => rfl⟩⟩
    · have hge : ¬ (k : Int) < (n : Int) := by omega
      have HS : Hid (Sc wr b (.slice da n c) k base err sh pa ∧ w.grownBy wr (some b) ∧ ∀ i, p0 ≤ i → i < k → isSp (Z i) = true) := ⟨hS, hg, hsp⟩
      clear hgk hS hg hsp hda hc h
      go_wp2
      go_quiet (fail)
      go_wp2
      obtain ⟨hS, hg, hsp⟩ := HS.out
      go_end0
      exact ⟨rfl, ⟨k, hpk, hk, hsp, fun h => absurd h hlt, hS.of_block rfl⟩, hg.trans ⟨rfl, rfl, rfl, Nat.le_refl _, fun _ _ _ => rfl⟩⟩

/-- SkipSpace from the start. -/
theorem skip_any (b : Nat) (da : Option Addr) (n c : Nat) (zs : List Int) (base : Int) (err : Value) (sh : Bool) (pa : Value) (w : World) (hn : zs.length = n) (hm : n ≤ 1048576) (hne : Apart da b)
    (hb : SB w da zs) (h : Sc w b (.slice da n c) 0 base err sh pa) :
    Calls Tryf.prog 9 #[.pointer (some ⟨b, 0, none⟩)] w fun e w' => e = .returned (.tuple #[]) ∧ Sc w' b (.slice da n c) (lead zs) base err sh pa ∧ w.grownBy w' (some b) := by
  subst hn
  rcases hb with rfl | ⟨db, doff, rfl, hc⟩
  · refine (skip_core b da (b + 1) 0 0 c (fun _ => 0) 0 base err sh pa w (by omega) (by omega) (by omega) (fun h => by omega) h (fun i hi => by omega)).mono ?_
    rintro e w' ⟨rfl, ⟨k, _, hk, _, _, hS⟩, hg⟩
    obtain rfl : k = 0 := by omega
    exact ⟨rfl, hS, hg⟩
  · refine (skip_core b (some ⟨db, doff, none⟩) db doff zs.length c (fun i => zs.getD i 0) 0 base err sh pa w hm (by omega) (hne _ rfl) (fun _ => rfl) h hc).mono ?_
    rintro e w' ⟨rfl, ⟨k, _, hk, h1, h2, hS⟩, hg⟩
    rw [lead_unique zs k hk (fun i hi => h1 i (by omega) hi) h2]
    exact ⟨rfl, hS, hg⟩

theorem pos_any (b : Nat) (v : Int) (w : World) (h : w.cell? ⟨b, 1, none⟩ = some (.int .i64 v)) :
    Calls Tryf.prog 13 #[.pointer (some ⟨b, 0, none⟩)] w fun e w' => e = .returned (.int .i64 v) ∧ w' = w := by
  go_enter Tryf.func13, Tryf.ntmps13
  go_wp2
  go_ret
  exact ⟨rfl, rfl⟩

theorem base_any (b : Nat) (v : Int) (w : World) (h : w.cell? ⟨b, 2, none⟩ = some (.int .i64 v)) :
    Calls Tryf.prog 15 #[.pointer (some ⟨b, 0, none⟩)] w fun e w' => e = .returned (.int .i64 v) ∧ w' = w := by
  go_enter Tryf.func15, Tryf.ntmps15
  go_wp2
  go_ret
  exact ⟨rfl, rfl⟩

theorem err_any (b : Nat) (v : Value) (w : World) (h : w.cell? ⟨b, 3, none⟩ = some v) :
    Calls Tryf.prog 12 #[.pointer (some ⟨b, 0, none⟩)] w fun e w' => e = .returned v ∧ w' = w := by
  go_enter Tryf.func12, Tryf.ntmps12
  go_wp2
  go_ret
  exact ⟨rfl, rfl⟩

theorem short_any (b : Nat) (v : Bool) (w : World) (h : w.cell? ⟨b, 4, none⟩ = some (.bool v)) :
    Calls Tryf.prog 14 #[.pointer (some ⟨b, 0, none⟩)] w fun e w' => e = .returned (.bool v) ∧ w' = w := by
  go_enter Tryf.func14, Tryf.ntmps14
  go_wp2
  go_ret
  exact ⟨rfl, rfl⟩

theorem data_any (b : Nat) (v : Value) (w : World) (h : w.cell? ⟨b, 0, none⟩ = some v) :
    Calls Tryf.prog 19 #[.pointer (some ⟨b, 0, none⟩)] w fun e w' => e = .returned v ∧ w' = w := by
  go_enter Tryf.func19, Tryf.ntmps19
  go_wp2
  go_ret
  exact ⟨rfl, rfl⟩

end Go.Proofs.Qxb6618665aFmt
