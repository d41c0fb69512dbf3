/-
  Seat b6618722aF: zzJudgeFor.
-/
import Derived.Test.Qxb6618722aFmtFnsD
namespace Go.Proofs.Qxb6618722aFmt
open Go.RowKit Go.Maps
set_option linter.unusedVariables false
set_option maxRecDepth 4000

theorem lit_ne {q r : Nat} (h : q ≠ r) : (Lit.int .u8 (q : Int)) ≠ .int .u8 (r : Int) := fun e => by
  injection e with _ e
  omega
theorem isKey_int (k : IntKind) (x : Int) : WideAt.IsKeyLit (.int k x) := trivial
theorem grown_some {w w' : World} (g : w.grownBy w' none) (row : Option Nat) : w.grownBy w' row := ⟨g.os, g.tape, g.output, g.size, fun k hk _ => g.block k hk (by simp)⟩
/-- Writes to a block that was made since do not show. -/
theorem grown_past {w0 w w' : World} (g : w0.grownBy w none) {b : Nat} (g' : w.grownBy w' (some b)) (hb : w0.heap.size ≤ b) : w0.grownBy w' none :=
  ⟨g'.os.trans g.os, g'.tape.trans g.tape, g'.output.trans g.output, Nat.le_trans g.size g'.size, fun k hk _ => (g'.block k (Nat.lt_of_lt_of_le hk g.size) (by simp; omega)).trans (g.block k hk (by simp))⟩

/-- The judge while its roles are added. -/
structure B1 (lo r : Nat) (w0 w : World) : Prop where
  cA : w.cell? ⟨lo + 2, 39, none⟩ = some (.map (some lo))
  cX : w.cell? ⟨lo + 2, 45, none⟩ = some (.map (some (lo + 1)))
  am : ∃ n f, n ≤ r ∧ Mp Tryf.prog 62 w lo n f ∧ ∀ q : Nat, q < r → f (.int .u8 q) = some (.map (some (lo + 3 + q)))
  rm : ∀ q : Nat, q < r → Mp Tryf.prog 27 w (lo + 3 + q) 0 (fun _ => none)
  xm : Mp Tryf.prog 44 w (lo + 1) 0 (fun _ => none)
  size : w.heap.size = lo + 3 + r
  grown : w0.grownBy w none
  lo0 : w0.heap.size = lo

theorem B1.step {lo r : Nat} {w0 w w' : World} {n n' : Nat} {f : Lit → Option Value} (h : B1 lo r w0 w) (hf : ∀ q : Nat, q < r → f (.int .u8 q) = some (.map (some (lo + 3 + q)))) (hn : n ≤ r) (hn' : n' ≤ n + 1) (h1 : Mp Tryf.prog 62 w' lo n' (upd f (.int .u8 r) (.map (some w.heap.size))))
    (h2 : Mp Tryf.prog 27 w' w.heap.size 0 (fun _ => none)) (g : w.grownBy w' (some lo)) (hs : w'.heap.size = w.heap.size + 1) : B1 lo (r + 1) w0 w' := by
  have e := h.size
  refine ⟨g.cell h.cA (by simp), g.cell h.cX (by simp), ⟨n', _, by omega, h1, fun q hq => ?_⟩, fun q hq => ?_, h.xm.grow g (by simp), by omega, grown_past h.grown g (by rw [h.lo0]; exact Nat.le_refl _), h.lo0⟩
  · by_cases eq : q = r
    · subst eq; rw [upd_same (isKey_int _ _), e]
    · rw [upd_other (lit_ne eq)]; exact hf q (by omega)
  · by_cases eq : q = r
    · subst eq; rw [← e]; exact h2
    · exact (h.rm q (by omega)).grow g (by simp; omega)

def S0 (ext : List Int → Option Nat) : St := { cnt := fun _ => 0, ans := fun _ _ => none, ext := ext, xv := fun _ => none }

/-- The judge while its extra verifiers are added. -/
structure B2 (lo k : Nat) (st : List Step) (ext : List Int → Option Nat) (w0 w : World) : Prop where
  j : J lo w.heap.size (S0 ext) w
  xm : ∃ n f, n ≤ k ∧ Mp Tryf.prog 44 w (lo + 1) n f ∧ ∀ sg, Good sg → f (ky sg) = (ext sg).map fun b => .pointer (some ⟨b, 0, none⟩)
  all : ∀ i s, i < k → st[i]? = some s → s.role = 3 → ext s.sg ≠ none
  grown : w0.grownBy w none
  lo0 : w0.heap.size = lo

theorem B1.done {lo : Nat} {st : List Step} {w0 w : World} (h : B1 lo 3 w0 w) : B2 lo 0 st (fun _ => none) w0 w := by
  have e := h.size
  refine ⟨⟨by omega, Nat.le_refl _, h.cA, h.cX, ?_, ?_, ⟨0, _, h.xm, fun _ _ => rfl⟩, ?_, ?_, ?_, ?_⟩, ⟨0, _, Nat.le_refl _, h.xm, fun _ _ => rfl⟩, fun i s hi => by omega, h.grown, h.lo0⟩
  · obtain ⟨n, f, _, h1, h2⟩ := h.am
    exact ⟨n, f, h1, h2⟩
  · intro r hr
    exact ⟨_, h.rm r hr, fun _ _ => rfl⟩
  · intro sg b _ hb; cases hb
  · intro sg sg' b _ _ hb; cases hb
  · intro r i d hd; cases hd
  · intro sg d hd; cases hd

theorem B2.skip {lo k : Nat} {st : List Step} {ext : List Int → Option Nat} {w0 w : World} (h : B2 lo k st ext w0 w) {s : Step} (hs : st[k]? = some s) (hr : s.role ≠ 3) : B2 lo (k + 1) st ext w0 w := by
  refine ⟨h.j, ?_, ?_, h.grown, h.lo0⟩
  · obtain ⟨n, f, h1, h2⟩ := h.xm
    exact ⟨n, f, by omega, h2⟩
  · intro i s' hi hs' h3
    by_cases e : i = k
    · subst e; rw [hs] at hs'; cases hs'; exact absurd h3 hr
    · exact h.all i s' (by omega) hs' h3

def addX (ext : List Int → Option Nat) (sg : List Int) (b : Nat) : List Int → Option Nat := fun x => if x = sg then some b else ext x

theorem ec38 : ec[38]? = some (.bool false) := by rfl
theorem ec39 : ∀ j v, (ar zs)[j]? = some v → ec[39 + j]? = some v := by
  intro j v hv
  have hj : j < 32 := by
    have := (List.getElem?_eq_some_iff.1 hv).1
    rwa [good_zs.ar] at this
  have e : ec.drop 39 = ar zs := by rfl
  rw [← e, List.getElem?_drop] at hv
  exact hv

theorem B2.add {lo k : Nat} {st : List Step} {ext : List Int → Option Nat} {w0 w w' : World} (h : B2 lo k st ext w0 w) {s : Step} (hs : st[k]? = some s) (hok : s.Ok) {n n' : Nat} {f : Lit → Option Value} (hn : n ≤ k) (hf : ∀ sg, Good sg → f (ky sg) = (ext sg).map fun b => .pointer (some ⟨b, 0, none⟩))
    (hn' : n' ≤ n + 1) (h1 : Mp Tryf.prog 44 w' (lo + 1) n' (upd f (ky s.sg) (.pointer (some ⟨w.heap.size + 1, 0, none⟩)))) (h2 : w'.rangeAt (w.heap.size + 1) 0 ec) (h3 : w'.there (w.heap.size + 1) 0 71) (g : w.grownBy w' (some (lo + 1))) (hsz : w'.heap.size = w.heap.size + 2) :
    B2 lo (k + 1) st (addX ext s.sg (w.heap.size + 1)) w0 w' := by
  have hl := h.j.lohi
  have hX : ∀ sg, Good sg → upd f (ky s.sg) (.pointer (some ⟨w.heap.size + 1, 0, none⟩)) (ky sg) = (addX ext s.sg (w.heap.size + 1) sg).map fun b => .pointer (some ⟨b, 0, none⟩) := by
    intro sg hg
    by_cases e : sg = s.sg
    · subst e; rw [upd_same (law44.key (keyOf_ky hok.sg))]; simp [addX]
    · rw [upd_other (fun e' => e (ky_inj hg hok.sg e')), hf sg hg]; simp [addX, e]
  refine ⟨⟨by omega, Nat.le_refl _, g.cell h.j.cA (by simp), g.cell h.j.cX (by simp), ?_, ?_, ⟨n', _, h1, hX⟩, ?_, ?_, ?_, ?_⟩, ⟨n', _, by omega, h1, hX⟩, ?_, grown_past h.grown g (by rw [h.lo0]; omega), h.lo0⟩
  · obtain ⟨m, q, q1, q2⟩ := h.j.am
    exact ⟨m, q, q1.grow g (by simp), q2⟩
  · intro r hr
    obtain ⟨q, q1, q2⟩ := h.j.rm r hr
    exact ⟨q, q1.grow g (by simp; omega), q2⟩
  · intro sg b hg hb
    by_cases e : sg = s.sg
    · simp [S0, addX, e] at hb
      subst hb
      refine ⟨by omega, by omega, by have := h2 38 _ ec38; rw [Nat.zero_add] at this; exact this, fun j v hv => ?_, fun j hj => ?_⟩
      · have := h2 (39 + j) v (ec39 j v hv)
        rw [← this]; congr 2; omega
      · have := h3 (38 + j) (by omega)
        rw [show 0 + (38 + j) = 38 + j from by omega] at this
        exact this
    · simp [S0, addX, e] at hb
      obtain ⟨q1, q2, q3, q4, q5⟩ := h.j.ev sg b hg hb
      have eb := g.block b q2 (by simp; omega)
      exact ⟨q1, by omega, by rw [cell_eq eb]; exact q3, rangeAt_eq eb q4, there_eq eb q5⟩
  · intro sg sg' b hg hg' hb hb'
    by_cases e : sg = s.sg <;> by_cases e' : sg' = s.sg
    · rw [e, e']
    · simp [S0, addX, e] at hb
      simp [S0, addX, e'] at hb'
      have := (h.j.ev sg' b hg' hb').2.1
      omega
    · simp [S0, addX, e] at hb
      simp [S0, addX, e'] at hb'
      have := (h.j.ev sg b hg hb).2.1
      omega
    · simp [S0, addX, e] at hb
      simp [S0, addX, e'] at hb'
      exact h.j.inj sg sg' b hg hg' hb hb'
  · intro r i d hd; cases hd
  · intro sg d hd; cases hd
  · intro i s' hi hs' h3'
    by_cases e : i = k
    · subst e; rw [hs] at hs'; cases hs'; simp [addX]
    · unfold addX
      split
      · simp
      · exact h.all i s' (by omega) hs' h3'

set_option maxHeartbeats 2000000 in
theorem judgeFor_any (a : Option Addr) (n c b o : Nat) (st : List Step) (w : World) (h : Sl w a n b o st) (hn : n ≤ 1024) (hb : 0 < n → b < w.heap.size) :
    Calls Tryf.prog 8 #[.slice a n c] w fun e w' => e = .returned (.pointer (some ⟨w.heap.size + 2, 0, none⟩)) ∧ ∃ ext, B2 w.heap.size n st ext w w' := by
  have HS : Hid (Sl w a n b o st) := h
  clear h
  go_enter Tryf.func8, Tryf.ntmps8
  go_wp2_with fail
  refine (new_any w).mono ?_
  rintro e w1 ⟨rfl, h1, h2, h3, h4, h5, h6⟩
  have HB : Hid (B1 w.heap.size 0 w w1) := ⟨h1, h2, ⟨0, _, Nat.le_refl _, h3, fun q hq => by omega⟩, fun q hq => by omega, h4, by omega, h5, rfl⟩
  clear h1 h2 h3 h4 h5 h6
  go_wp2
  go_loopw [4] (fun v wr => ∃ r : Nat, r ≤ 3 ∧ v = .int .u8 r ∧ Hid (B1 w.heap.size r w wr)) (fun v _ => 3 - (intOf v).toNat)
  case atStart => exact ⟨0, by omega, rfl, HB⟩
  case round =>
    obtain ⟨r, hr, rfl, HR⟩ := hrel
    clear HB
    by_cases hlt : r < 3
    · have hlt' : (r : Int) < 3 := by omega
      obtain ⟨m, f, q1, q2, q3⟩ := HR.out.am
      go_wp2_with fail
      refine (addRole_any w.heap.size m f r wr hlt HR.out.cA q2 (by omega)).mono ?_
      rintro e w2 ⟨rfl, ⟨m', x1, x2⟩, x3, x4, x5⟩
      have HR2 : Hid (B1 w.heap.size (r + 1) w w2) := HR.out.step q3 q1 x1 x2 x3 x4 x5
      clear x1 x2 x3 x4 x5 q1 q2 q3 HR
      go_wp2
      go_roundw
      case rel => exact ⟨r + 1, by omega, by go_num, HR2⟩
      case measure => simp [intOf]; omega
    · have hlt' : ¬ (r : Int) < 3 := by omega
      have HB2 : Hid (B2 w.heap.size 0 st (fun _ => none) w wr) := by
        have : r = 3 := by omega
        subst this
        exact HR.out.done
      clear HR
      go_wp2
      go_loopw [5] (fun v wr => ∃ k : Nat, k ≤ n ∧ v = .int .i64 k ∧ ∃ ext, Hid (B2 w.heap.size k st ext w wr)) (fun v _ => n - (intOf v).toNat)
      case atStart => exact ⟨0, by omega, rfl, _, HB2⟩
      case round =>
        obtain ⟨k, hk, rfl, ext, HR⟩ := hrel
        clear HB2
        by_cases hlt2 : k < n
        · have hlt2' : (k : Int) < (n : Int) := by omega
          have HS2 : Hid (Sl wr a n b o st) := HS.out.grow (HR.out.grown.block b (hb (by omega)) (by simp))
          obtain ⟨s, hs1, hs2, hs3⟩ := HS2.out.at hlt2
          have z := StepAt.of_range hs2 hs3
          have z1 := z.role
          have z2 := z.sg
          have HA : Hid (a = some ⟨b, o, none⟩) := HS2.out.ad (by omega)
          clear z hs3
          by_cases h3 : s.role = 3
          · have h3' : ((s.role : Int) == 3) = true := by simp; omega
            obtain ⟨m, f, q1, q2, q3⟩ := HR.out.xm
            go_wp2_with (first
              | (refine wpList_index22 rfl _ _ rfl a n c b o k rfl rfl HA.out hlt2 ?_)
              | (refine wpList_load_mid rfl 26 _ rfl _ _ rfl (ar s.sg) _ z2 Tryf.underlying26 rfl (by rw [hs2.sg.ar]; exact size26) ?_))
            refine (addExtra_any w.heap.size m f s.sg _ hs2.sg HR.out.j.cX q2 (by omega)).mono ?_
            rintro e w3 ⟨rfl, ⟨m', x1, x2⟩, x3, x4, x5, x6⟩
            have HR2 : Hid (∃ ext, B2 w.heap.size (k + 1) st ext w w3) := ⟨_, HR.out.add hs1 hs2 q1 q3 x1 x2 x3 x4 x5 x6⟩
            clear x1 x2 x3 x4 x5 x6 q1 q2 q3 z1 z2 HS2
            go_wp2
            go_roundw
            case rel =>
              obtain ⟨ext', hx⟩ := HR2.out
              exact ⟨k + 1, by omega, by go_num, ext', hx⟩
            case measure => simp [intOf]; omega
          · have h3' : ((s.role : Int) == 3) = false := by simp; omega
            have HR2 : Hid (B2 w.heap.size (k + 1) st ext w wr) := HR.out.skip hs1 h3
            go_wp2_with (first
              | (refine wpList_index22 rfl _ _ rfl a n c b o k rfl rfl HA.out hlt2 ?_))
            go_roundw
            case rel => exact ⟨k + 1, by omega, by go_num, ext, HR2⟩
            case measure => simp [intOf]; omega
        · have hlt2' : ¬ (k : Int) < (n : Int) := by omega
          have HR2 : Hid (B2 w.heap.size n st ext w wr) := by
            have : k = n := by omega
            subst this; exact HR
          go_wp2
          go_ret
          exact ⟨rfl, ext, HR2.out⟩

end Go.Proofs.Qxb6618722aFmt
