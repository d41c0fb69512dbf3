/-
  The walks of the small functions: zzb1Space, zzb1Clone, zzb1Eq.
-/
import Derived.Test.Qxb6618665aFmtRows
import Derived.Test.Qxb6618665aFmtBase
import Derived.Deep.QuietTactic
import Derived.BigQuiet
import Derived.RegionTactic
import Derived.ChangeAlike
namespace Go.Proofs.Qxb6618665aFmt
open Go.RowKit

theorem Tryf.info5 : (Tryf.prog.info? 5).map (fun i => (i.zero, i.size, i.bytes)) = some (some (.int .u8 0), 1, 1) := by kernel_rfl

set_option maxHeartbeats 400000 in
theorem space_any (z : Int) (w : World) : Calls Tryf.prog 21 #[.int .u8 z] w fun e w' => e = .returned (.bool (isSp z)) ∧ w' = w := by
  by_cases h1 : (z == 32) = true
  · go_enter Tryf.func21, Tryf.ntmps21
    go_wp2
    go_ret
    exact ⟨by simp [isSp, h1], rfl⟩
  simp only [Bool.not_eq_true] at h1
  by_cases h2 : (z == 9) = true
  · go_enter Tryf.func21, Tryf.ntmps21
    go_wp2
    go_ret
    exact ⟨by simp [isSp, h1, h2], rfl⟩
  simp only [Bool.not_eq_true] at h2
  by_cases h3 : (z == 10) = true
  · go_enter Tryf.func21, Tryf.ntmps21
    go_wp2
    go_ret
    exact ⟨by simp [isSp, h1, h2, h3], rfl⟩
  simp only [Bool.not_eq_true] at h3
  go_enter Tryf.func21, Tryf.ntmps21
  go_wp2
  go_ret
  exact ⟨by simp [isSp, h1, h2, h3], rfl⟩

/-- zzb1Clone of nil. -/
theorem clone_nil (w : World) : Calls Tryf.prog 7 #[.slice none 0 0] w fun e w' => e = .returned (.slice none 0 0) ∧ w' = w := by
  have q : ∀ (w : World), (binOp .eql 22 (.slice none 0 0) (.slice none 0 0)).run Tryf.prog w = .ok (.bool true) w := fun w => by kernel_rfl
  go_enter Tryf.func7, Tryf.ntmps7
  go_wp2
  go_ret
  exact ⟨rfl, rfl⟩


/-- zzb1Clone of a slice that is not nil: a new row of the same bytes. -/
theorem clone_some (b off n c : Nat) (Z : Nat → Int) (w : World) (hn : n ≤ 1048576) (hc : ∀ i, i < n → w.cell? ⟨b, off + i, none⟩ = some (.int .u8 (Z i))) :
    Calls Tryf.prog 7 #[.slice (some ⟨b, off, none⟩) n c] w fun e w' => e = .returned (.slice (some ⟨w.heap.size, 0, none⟩) n n) ∧
      w'.rowIs w.heap.size 5 n (fun i => .int .u8 (Z i)) ∧ w.grownBy w' none := by
  have q : ∀ (w : World) (a : Addr) (n c : Nat), (binOp .eql 22 (.slice (some a) n c) (.slice none 0 0)).run Tryf.prog w = .ok (.bool false) w := fun w a n c => by kernel_rfl
  have hmk := run_make_row' (P := Tryf.prog) 22 5 (.int .u8 0) 1 Tryf.underlying22 Tryf.info5 rfl .i64 .i64 n (by omega) (by omega)
  go_enter Tryf.func7, Tryf.ntmps7
  go_wp2
  clear hmk q
  go_loopw [4] (fun i wr => ∃ k : Nat, k ≤ n ∧ i = .int .i64 k ∧ wr.rowIs w.heap.size 5 n (fun j => .int .u8 (if j < k then Z j else 0)) ∧ w.grownBy wr none) (fun i _ => n - (intOf i).toNat)
  case atStart => exact ⟨0, Nat.zero_le _, rfl, (World.rowIs_made w (.int .u8 0) n 5).congr (fun i _ => by simp), World.grownBy_alloc w _ none⟩
  case round =>
    obtain ⟨k, hk, rfl, hrow, hg⟩ := hrel
    by_cases hlt : k < n
    · have h1 : wr.cell? ⟨b, off + k, none⟩ = some (.int .u8 (Z k)) := hg.cell (hc k hlt) (by simp)
      have h2 : wr.cell? ⟨w.heap.size, k, none⟩ = some (.int .u8 0) := by rw [hrow.cell hlt]; simp
      have h3 := hrow.frozen k
      have HR : Hid ((wr.setCell ⟨w.heap.size, k, none⟩ (.int .u8 (Z k))).rowIs w.heap.size 5 n (fun j => .int .u8 (if j < k + 1 then Z j else 0)) ∧ w.grownBy (wr.setCell ⟨w.heap.size, k, none⟩ (.int .u8 (Z k))) none) := by
        refine ⟨(hrow.set k _).congr (fun j hj => ?_), ⟨hg.os, hg.tape, hg.output, by simpa [World.setCell] using hg.size, fun i hi h => (Below.heap_setCell _ _ _ _ (by simp; omega)).trans (hg.block i hi h)⟩⟩
        by_cases e : j = k
        · subst e; simp
        · simp only [e, if_false]
          by_cases hj' : j < k
          · rw [if_pos hj', if_pos (by omega)]
          · rw [if_neg hj', if_neg (by omega)]
      clear hrow hg
      go_wp2
      go_roundw
      case rel => exact ⟨k + 1, by omega, by go_num, HR.out.1, HR.out.2⟩
      case measure => simp [intOf]; omega
    · have HR : Hid (wr.rowIs w.heap.size 5 n (fun j => .int .u8 (Z j))) := hrow.congr (fun j hj => by rw [if_pos (by omega)])
      clear hrow
      go_wp2
      go_ret
      exact ⟨rfl, HR.out, hg⟩

/-- zzb1Eq of two slices that read alike. -/
theorem eq_some (b off c b' off' c' n : Nat) (Z : Nat → Int) (w : World) (hn : n ≤ 1048576) (hc : ∀ i, i < n → w.cell? ⟨b, off + i, none⟩ = some (.int .u8 (Z i))) (hc' : ∀ i, i < n → w.cell? ⟨b', off' + i, none⟩ = some (.int .u8 (Z i))) :
    Calls Tryf.prog 18 #[.slice (some ⟨b, off, none⟩) n c, .slice (some ⟨b', off', none⟩) n c'] w fun e w' => e = .returned (.bool true) ∧ ∃ k, w' = w.drewN k := by
  go_enter Tryf.func18, Tryf.ntmps18
  go_wp2
  go_loopw [5] (fun i wr => ∃ k : Nat, k ≤ n ∧ i = .int .i64 k ∧ ∃ m, wr = w.drewN m) (fun i _ => n - (intOf i).toNat)
  case atStart => exact ⟨0, Nat.zero_le _, rfl, 0, rfl⟩
  case round =>
    obtain ⟨k, hk, rfl, m, rfl⟩ := hrel
    by_cases hlt : k < n
    · have h1 := hc k hlt
      have h2 := hc' k hlt
      have hlt' : (k : Int) < (n : Int) := by omega
      go_wp2
      go_quiet (fail)
      go_wp2
      go_roundw
      case rel => exact ⟨k + 1, by omega, by go_num, _, rfl⟩
      case measure => simp [intOf]; omega
    · go_wp2
      go_ret
      exact ⟨rfl, _, rfl⟩

/-- zzb1Clone of an empty slice that is not nil. -/
theorem clone_empty (x : Addr) (c : Nat) (w : World) :
    Calls Tryf.prog 7 #[.slice (some x) 0 c] w fun e w' => e = .returned (.slice (some ⟨w.heap.size, 0, none⟩) 0 0) ∧ w.grownBy w' none ∧ w.heap.size < w'.heap.size := by
  have q : ∀ (w : World) (a : Addr) (n c : Nat), (binOp .eql 22 (.slice (some a) n c) (.slice none 0 0)).run Tryf.prog w = .ok (.bool false) w := fun w a n c => by kernel_rfl
  have hmk := fun w => run_make_row' (P := Tryf.prog) 22 5 (.int .u8 0) 1 Tryf.underlying22 Tryf.info5 rfl .i64 .i64 0 (by omega) (by omega) w
  simp only [Int.natCast_zero] at hmk
  go_enter Tryf.func7, Tryf.ntmps7
  go_wp2
  clear hmk q
  refine wp_loop_once ?_
  go_wp2
  go_ret
  exact ⟨rfl, World.grownBy_alloc w _ none, by simp⟩

/-- zzb1Clone. -/
theorem clone_any (a : Option Addr) (n c : Nat) (zs : List Int) (w : World) (hn : zs.length = n) (hm : n ≤ 1048576) (hnil : a = none → n = 0 ∧ c = 0) (h : SB w a zs) :
    Calls Tryf.prog 7 #[.slice a n c] w fun e w' => ∃ a', e = .returned (.slice a' n n) ∧ SB w' a' zs ∧ w.grownBy w' none ∧ Made w w' a' ∧ (a' = none → n = 0) := by
  subst hn
  cases a with
  | none =>
    obtain ⟨h1, rfl⟩ := hnil rfl
    have hz : zs = [] := List.length_eq_zero_iff.1 h1
    subst hz
    refine (clone_nil w).mono ?_
    rintro e w' ⟨rfl, rfl⟩
    exact ⟨none, rfl, .inl rfl, World.grownBy.refl _ _, .inl rfl, fun _ => rfl⟩
  | some x =>
    rcases h with rfl | ⟨b, off, hx, hc⟩
    · refine (clone_empty x c w).mono ?_
      rintro e w' ⟨rfl, hg, hl⟩
      exact ⟨_, rfl, .inl rfl, hg, .inr ⟨rfl, hl⟩, fun h => by cases h⟩
    · cases hx
      refine (clone_some b off zs.length c (fun i => zs.getD i 0) w hm hc).mono ?_
      rintro e w' ⟨rfl, hr, hg⟩
      exact ⟨_, rfl, .inr ⟨_, _, rfl, fun i hi => by rw [Nat.zero_add]; exact hr.cell hi⟩, hg, .inr ⟨rfl, hr.lt⟩, fun h => by cases h⟩

/-- zzb1Eq of two empty slices. -/
theorem eq_empty (a a' : Option Addr) (c c' : Nat) (w : World) :
    Calls Tryf.prog 18 #[.slice a 0 c, .slice a' 0 c'] w fun e w' => e = .returned (.bool true) ∧ ∃ k, w' = w.drewN k := by
  go_enter Tryf.func18, Tryf.ntmps18
  go_wp2
  refine wp_loop_once ?_
  go_wp2
  go_ret
  exact ⟨rfl, 0, rfl⟩

theorem eq_any (a a' : Option Addr) (n c c' : Nat) (zs : List Int) (w : World) (hn : zs.length = n) (hm : n ≤ 1048576) (h : SB w a zs) (h' : SB w a' zs) :
    Calls Tryf.prog 18 #[.slice a n c, .slice a' n c'] w fun e w' => e = .returned (.bool true) ∧ ∃ k, w' = w.drewN k := by
  subst hn
  by_cases hz : zs = []
  · subst hz
    exact eq_empty a a' c c' w
  · rcases h with h | ⟨b, off, rfl, hc⟩
    · exact absurd h hz
    · rcases h' with h' | ⟨b', off', rfl, hc'⟩
      · exact absurd h' hz
      · exact eq_some b off c b' off' c' zs.length (fun i => zs.getD i 0) w hm hc hc'

end Go.Proofs.Qxb6618665aFmt
