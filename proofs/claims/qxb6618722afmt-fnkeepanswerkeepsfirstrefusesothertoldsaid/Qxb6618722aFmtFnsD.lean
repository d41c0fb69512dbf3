/-
  Seat b6618722aF: the steps in memory ('Sl'); zzBytes, zzRolesKnown, zzJudgeFor.
-/
import Derived.Test.Qxb6618722aFmtFnsC
namespace Go.Proofs.Qxb6618722aFmt
open Go.RowKit Go.Maps
set_option linter.unusedVariables false
set_option maxRecDepth 4000

/-- The steps in memory. -/
structure Sl (w : World) (a : Option Addr) (n b o : Nat) (st : List Step) : Prop where
  len : st.length = n
  ad : 0 < n → a = some ⟨b, o, none⟩
  cells : ∀ k s, st[k]? = some s → w.rangeAt b (o + 67 * k) s.cells
  ok : ∀ s ∈ st, s.Ok

theorem Sl.grow {w w' : World} {a : Option Addr} {n b o : Nat} {st : List Step} (h : Sl w a n b o st) (hb : w'.heap[b]? = w.heap[b]?) : Sl w' a n b o st :=
  ⟨h.len, h.ad, fun k s hs => rangeAt_eq hb (h.cells k s hs), h.ok⟩
theorem Sl.at {w : World} {a : Option Addr} {n b o : Nat} {st : List Step} (h : Sl w a n b o st) {k : Nat} (hk : k < n) : ∃ s, st[k]? = some s ∧ s.Ok ∧ w.rangeAt b (o + 67 * k) s.cells := by
  have hk' : k < st.length := by rw [h.len]; exact hk
  exact ⟨st[k], List.getElem?_eq_getElem hk', h.ok _ (List.getElem_mem hk'), h.cells k _ (List.getElem?_eq_getElem hk')⟩

theorem cells29 : Tryf.prog.cellsOf 29 = 67 := by kernel_rfl
/-- A bool is handed back. -/
def IsB (e : Ending) : Prop := ∃ x, e = .returned (.bool x)
theorem index22 (a : Option Addr) (n c b o k : Nat) (ha : a = some ⟨b, o, none⟩) (hk : k < n) (w : World) : (Instr.indexAt 22 (.slice a n c) (.int .i64 k)).run Tryf.prog w = .ok (.pointer (some ⟨b, o + 67 * k, none⟩)) w := by
  subst ha
  have hk' : (k : Int) < (n : Int) := by omega
  have h29 : (sizeOf 29).run Tryf.prog w = .ok 67 w := by kernel_rfl
  go_simp

set_option maxHeartbeats 1000000 in
theorem bytes13_any (a : Option Addr) (n c : Nat) (w : World) :
    Calls Tryf.prog 13 #[.slice a n c] w fun e w' => IsB e ∧ w' = w := by
  by_cases hn : n ≤ 1048576
  · have hn1 : ¬ (1048576 : Int) < (n : Int) := by omega
    have hn2 : ¬ (1048576 : Int) < 0 + (n : Int) := by omega
    go_enter Tryf.func13, Tryf.ntmps13
    go_wp2
    go_loopw [3, 4] (fun z i wr => ∃ m k : Nat, k ≤ n ∧ m ≤ 1048576 ∧ z = .int .i64 m ∧ i = .int .i64 k ∧ wr = w) (fun _ i _ => n - (intOf i).toNat)
    case atStart => exact ⟨n, 0, Nat.zero_le _, hn, rfl, rfl, rfl⟩
    case round =>
      obtain ⟨m, k, hk, hm, rfl, rfl, hw⟩ := hrel
      obtain rfl := hw.symm
      by_cases hlt : k < n
      · have hlt' : (k : Int) < (n : Int) := by omega
        by_cases h1 : m + 32 ≤ 1048576
        · have h1' : ¬ (1048576 : Int) < (m : Int) + 32 := by omega
          by_cases h2 : m + 64 ≤ 1048576
          · have h2' : ¬ (1048576 : Int) < (m : Int) + 32 + 32 := by omega
            go_wp2
            go_roundw
            case rel => exact ⟨m + 64, k + 1, by omega, by omega, by go_num, by go_num, by first | trivial | rfl⟩
            case measure => simp [intOf]; omega
          · have h2' : (1048576 : Int) < (m : Int) + 32 + 32 := by omega
            go_wp2
            go_ret
            exact ⟨⟨_, rfl⟩, rfl⟩
        · have h1' : (1048576 : Int) < (m : Int) + 32 := by omega
          go_wp2
          go_ret
          exact ⟨⟨_, rfl⟩, rfl⟩
      · have hlt' : ¬ (k : Int) < (n : Int) := by omega
        go_wp2
        go_ret
        exact ⟨⟨_, rfl⟩, rfl⟩
  · have hn1 : (1048576 : Int) < (n : Int) := by omega
    go_enter Tryf.func13, Tryf.ntmps13
    go_wp2
    go_ret
    exact ⟨⟨_, rfl⟩, rfl⟩

set_option maxHeartbeats 1000000 in
theorem bytes6_any (a : Option Addr) (n c : Nat) (w : World) :
    Calls Tryf.prog 6 #[.slice a n c] w fun e w' => IsB e ∧ w' = w := by
  by_cases hn : n ≤ 1048576
  · have hn1 : ¬ (1048576 : Int) < (n : Int) := by omega
    have hn2 : ¬ (1048576 : Int) < 0 + (n : Int) := by omega
    go_enter Tryf.func6, Tryf.ntmps6
    go_wp2
    go_loopw [3, 4] (fun z i wr => ∃ m k : Nat, k ≤ n ∧ m ≤ 1048576 ∧ z = .int .i64 m ∧ i = .int .i64 k ∧ wr = w) (fun _ i _ => n - (intOf i).toNat)
    case atStart => exact ⟨n, 0, Nat.zero_le _, hn, rfl, rfl, rfl⟩
    case round =>
      obtain ⟨m, k, hk, hm, rfl, rfl, hw⟩ := hrel
      obtain rfl := hw.symm
      by_cases hlt : k < n
      · have hlt' : (k : Int) < (n : Int) := by omega
        by_cases h1 : m + 32 ≤ 1048576
        · have h1' : ¬ (1048576 : Int) < (m : Int) + 32 := by omega
          by_cases h2 : m + 64 ≤ 1048576
          · have h2' : ¬ (1048576 : Int) < (m : Int) + 32 + 32 := by omega
            go_wp2
            go_roundw
            case rel => exact ⟨m + 64, k + 1, by omega, by omega, by go_num, by go_num, by first | trivial | rfl⟩
            case measure => simp [intOf]; omega
          · have h2' : (1048576 : Int) < (m : Int) + 32 + 32 := by omega
            go_wp2
            go_ret
            exact ⟨⟨_, rfl⟩, rfl⟩
        · have h1' : (1048576 : Int) < (m : Int) + 32 := by omega
          go_wp2
          go_ret
          exact ⟨⟨_, rfl⟩, rfl⟩
      · have hlt' : ¬ (k : Int) < (n : Int) := by omega
        go_wp2
        go_ret
        exact ⟨⟨_, rfl⟩, rfl⟩
  · have hn1 : (1048576 : Int) < (n : Int) := by omega
    go_enter Tryf.func6, Tryf.ntmps6
    go_wp2
    go_ret
    exact ⟨⟨_, rfl⟩, rfl⟩

theorem wpList_index22 {ops : Array Oper} {rest : List Oper} {op : Oper} {a : Act} {w : World} {Q : Exit → Act → World → Prop} (hgd : op.guard = none) (x i : Operand) (ho : op.op = .indexAddr 22 x i) (aa : Option Addr) (n c b o k : Nat) (hx : a.eval x = .slice aa n c) (hi : a.eval i = .int .i64 k)
    (ha : aa = some ⟨b, o, none⟩) (hk : k < n) (h : wpList Tryf.prog ops Q rest (a.put op.dst (.pointer (some ⟨b, o + 67 * k, none⟩))) w) : wpList Tryf.prog ops Q (op :: rest) a w := by
  refine wpList_plain hgd fun K hK => ?_
  unfold Oper.wp
  simp only [execOp, ho, hx, hi, Sem.run_bind, index22 aa n c b o k ha hk w, Result.andThen_ok, Sem.run_pure]
  exact hK _ _ h

/-- The roles that are known. -/
def Known (st : List Step) (k : Nat) : Prop := ∀ j s, j < k → st[j]? = some s → s.role ≤ 3

set_option maxHeartbeats 1000000 in
theorem roles_any (a : Option Addr) (n c b o : Nat) (st : List Step) (w : World) (h : Sl w a n b o st) (hn : n ≤ 1048576) :
    Calls Tryf.prog 7 #[.slice a n c] w fun e w' => (e = .returned (.bool false) ∨ e = .returned (.bool true) ∧ Known st n) ∧ w' = w := by
  have HS : Hid (Sl w a n b o st) := h
  clear h
  go_enter Tryf.func7, Tryf.ntmps7
  go_wp2
  go_loop [3] (fun i => ∃ k : Nat, k ≤ n ∧ i = .int .i64 k ∧ Hid (Known st k)) (fun i => n - (intOf i).toNat)
  case atStart => exact ⟨0, Nat.zero_le _, rfl, fun j s hj => by omega⟩
  case round =>
    obtain ⟨k, hk, rfl, hkn⟩ := hrel
    by_cases hlt : k < n
    · have hlt' : (k : Int) < (n : Int) := by omega
      obtain ⟨s, hs1, hs2, hs3⟩ := HS.out.at hlt
      have z := (StepAt.of_range hs2 hs3).role
      have ha := HS.out.ad (by omega)
      have HR : Hid (s.role ≤ 3 → Known st (k + 1)) := fun h3 j s' hj hs' => by
        by_cases e : j = k
        · subst e; rw [hs1] at hs'; cases hs'; exact h3
        · exact hkn j s' (by omega) hs'
      clear hs1 hs2 hs3
      have HA : Hid (a = some ⟨b, o, none⟩) := ha
      clear ha
      by_cases h3 : s.role ≤ 3
      · have h3' : ¬ (3 : Int) < (s.role : Int) := by omega
        go_wp2_with (first
          | (refine wpList_index22 rfl _ _ rfl a n c b o k rfl rfl HA.out hlt ?_))
        go_round
        case rel => exact ⟨k + 1, by omega, by go_num, HR.out h3⟩
        case measure => simp [intOf]; omega
      · have h3' : (3 : Int) < (s.role : Int) := by omega
        go_wp2_with (first
          | (refine wpList_index22 rfl _ _ rfl a n c b o k rfl rfl HA.out hlt ?_))
        go_ret
        exact ⟨Or.inl rfl, rfl⟩
    · have hlt' : ¬ (k : Int) < (n : Int) := by omega
      have HK : Hid (Known st n) := by
        have : k = n := by omega
        subst this; exact hkn
      go_wp2
      go_ret
      exact ⟨Or.inr ⟨rfl, HK.out⟩, rfl⟩

end Go.Proofs.Qxb6618722aFmt
