/-
  zzb1Lead, ZZpathLen; Fail, failAt, failEnd, failSyntax, ZZfailSyntax.
-/
import Derived.Test.Qxb6618665aFmtFnsB
import Derived.Stop.CallBack
import Derived.Stop.IfaceNil
import GoSem.ClaimData
namespace Go.Proofs.Qxb6618665aFmt
open Go.RowKit
set_option linter.unusedVariables false

theorem pathLen_any (b n c : Nat) (a : Option Addr) (w : World) (h : w.cell? ⟨b, 5, none⟩ = some (.slice a n c)) :
    Calls Tryf.prog 16 #[.pointer (some ⟨b, 0, none⟩)] w fun e w' => e = .returned (.int .i64 n) ∧ w' = w := by
  go_enter Tryf.func16, Tryf.ntmps16
  go_wp2
  go_ret
  exact ⟨rfl, rfl⟩

/-- zzb1Lead of a row. -/
theorem lead_core (b off n c : Nat) (a : Option Addr) (Z : Nat → Int) (w : World) (hn : n ≤ 1048576) (ha : 0 < n → a = some ⟨b, off, none⟩) (hc : ∀ i, i < n → w.cell? ⟨b, off + i, none⟩ = some (.int .u8 (Z i))) :
    Calls Tryf.prog 11 #[.slice a n c] w fun e w' => (∃ k : Nat, e = .returned (.int .i64 k) ∧ k ≤ n ∧ (∀ i, i < k → isSp (Z i) = true) ∧ (k < n → isSp (Z k) = false)) ∧ w' = w := by
  go_enter Tryf.func11, Tryf.ntmps11
  go_wp2
  go_loop [3] (fun v => ∃ k : Nat, k ≤ n ∧ v = .int .i64 k ∧ ∀ i, i < k → isSp (Z i) = true) (fun v => n - (intOf v).toNat)
  case atStart => exact ⟨0, Nat.zero_le _, rfl, fun i h => by omega⟩
  case round =>
    obtain ⟨k, hk, rfl, hsp⟩ := hrel
    have HS : Hid (∀ i, i < k → isSp (Z i) = true) := hsp
    clear hsp
    by_cases hlt : k < n
    · obtain rfl := ha (by omega)
      have hcell := hc k hlt
      have hlt' : (k : Int) < (n : Int) := by omega
      clear hc ha
      by_cases hz : isSp (Z k) = true
      · go_wp2_with (go_at_call 21; refine (space_any _ _).mono ?_; rintro e w9 ⟨rfl, hw9⟩; obtain rfl := hw9.symm; rw [hz])
        go_round
        case rel => exact ⟨k + 1, by omega, by go_num, fun i hi => by rcases Nat.lt_succ_iff_lt_or_eq.1 hi with h | h; exact HS.out i h; rw [h]; exact hz⟩
        case measure => simp [intOf]; omega
      · simp only [Bool.not_eq_true] at hz
        go_wp2_with (go_at_call 21; refine (space_any _ _).mono ?_; rintro e w9 ⟨rfl, hw9⟩; obtain rfl := hw9.symm; rw [hz])
        go_ret
        exact ⟨⟨k, rfl, hk, HS.out, fun _ => hz⟩, rfl⟩
    · have hge : ¬ (k : Int) < (n : Int) := by omega
      go_wp2_with fail
      go_ret
      exact ⟨⟨k, rfl, hk, HS.out, fun h => absurd h hlt⟩, rfl⟩

theorem lead_any (a : Option Addr) (n c : Nat) (zs : List Int) (w : World) (hn : zs.length = n) (hm : n ≤ 1048576) (h : SB w a zs) :
    Calls Tryf.prog 11 #[.slice a n c] w fun e w' => e = .returned (.int .i64 (lead zs)) ∧ w' = w := by
  subst hn
  rcases h with rfl | ⟨b, off, rfl, hc⟩
  · refine (lead_core 0 0 0 c a (fun _ => 0) w (by omega) (fun h => by omega) (fun i hi => by omega)).mono ?_
    rintro e w' ⟨⟨k, rfl, hk, _⟩, rfl⟩
    obtain rfl : k = 0 := by omega
    exact ⟨rfl, rfl⟩
  · refine (lead_core b off zs.length c _ (fun i => zs.getD i 0) w hm (fun _ => rfl) hc).mono ?_
    rintro e w' ⟨⟨k, rfl, hk, h1, h2⟩, rfl⟩
    rw [lead_unique zs k hk h1 h2]
    exact ⟨rfl, rfl⟩

end Go.Proofs.Qxb6618665aFmt
