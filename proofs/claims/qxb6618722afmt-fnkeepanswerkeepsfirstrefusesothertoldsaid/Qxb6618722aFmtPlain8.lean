/-
  Seat b6618722aF: the plain part of FnKeepAnswerKeepsFirstRefusesOther.
-/
import Derived.Test.Qxb6618722aFmtFirst
namespace Go.Proofs.Qxb6618722aFmt
set_option linter.unusedVariables false

def hitAt (st : List Step) (t : Step) (k : Nat) : Bool := match st[k]? with
  | some s => skB s t
  | none => false
theorem hitAt_eq {st : List Step} {t s : Step} {k : Nat} (h : st[k]? = some s) : hitAt st t k = skB s t := by simp [hitAt, h]
/-- The first k from 'k' on, of m, that hits. -/
def fo (st : List Step) (t : Step) : Nat → Nat → Nat
  | 0, k => k
  | m + 1, k => if hitAt st t k then k else fo st t m (k + 1)
def firstOf (st : List Step) (t : Step) (i : Nat) : Nat := fo st t i 0

theorem fo_is (st : List Step) (t : Step) : ∀ m k, (∀ j s, j < k → st[j]? = some s → skB s t = false) → IsFirst st t (k + m) (fo st t m k)
  | 0, k, h => ⟨Nat.le_refl _, h, fun hlt => by simp [fo] at hlt⟩
  | m + 1, k, h => by
    unfold fo
    split
    · rename_i hh
      refine ⟨by omega, h, fun _ => ?_⟩
      unfold hitAt at hh
      split at hh
      · rename_i s hs; exact ⟨s, hs, hh⟩
      · cases hh
    · rename_i hh
      have := fo_is st t m (k + 1) (fun j s hj hs => by
        by_cases e : j = k
        · subst e; rw [hitAt_eq hs] at hh; simpa using hh
        · exact h j s (by omega) hs)
      rwa [show k + 1 + m = k + (m + 1) from by omega] at this
theorem firstOf_is (st : List Step) (t : Step) (i : Nat) : IsFirst st t i (firstOf st t i) := by
  have := fo_is st t i 0 (fun j s hj => by omega)
  rwa [Nat.zero_add] at this
theorem first_unique {st : List Step} {t : Step} {i f g : Nat} (hf : IsFirst st t i f) (hg : IsFirst st t i g) : f = g := by
  rcases Nat.lt_trichotomy f g with h | h | h
  · obtain ⟨s, h1, h2⟩ := hf.hit (by have := hg.le; omega)
    rw [hg.none f s h h1] at h2; cases h2
  · exact h
  · obtain ⟨s, h1, h2⟩ := hg.hit (by have := hf.le; omega)
    rw [hf.none g s h h1] at h2; cases h2

theorem not_same {s t : Step} (h : skB s t = false) : ¬ SameKey s t := fun e => by rw [skB_iff.2 e] at h; cases h

theorem get_none {S : St} (hS : ∀ t, S.get t = none) {st : List Step} {t : Step} : ∀ i, (∀ j s, j < i → st[j]? = some s → skB s t = false) → (runTo S st i).get t = none
  | 0, _ => hS t
  | i + 1, h => by
    have ih := get_none hS i (fun j s hj hs => h j s (by omega) hs)
    cases hs : st[i]? with
    | none => simp only [runTo, hs]; exact ih
    | some s =>
      rw [runTo_succ hs]
      unfold St.step
      split
      · exact ih
      · rw [get_put_other (not_same (h i s (by omega) hs))]; exact ih

theorem get_hit {S : St} (hS : ∀ t, S.get t = none) {st : List Step} {t s : Step} {i f : Nat} (h : IsFirst st t i f) (hf : f < i) (hs : st[f]? = some s) : (runTo S st i).get t = some s.out := by
  obtain ⟨s', h1, h2⟩ := h.hit hf
  rw [hs] at h1; cases h1
  have hsk := skB_iff.1 h2
  have h0 := get_none hS f h.none
  have hn : (runTo S st f).refuse s = false := by
    simp [St.refuse, get_same hsk, h0]
  have h3 : (runTo S st (f + 1)).get t = some s.out := by
    rw [runTo_succ hs]
    unfold St.step
    rw [hn]
    simpa using get_put_same hsk
  have := runTo_mono h3 (i - (f + 1))
  rwa [show f + 1 + (i - (f + 1)) = i from by omega] at this

/-- What a step finds: nothing, or the first answer at its key. -/
theorem refuse_first {S : St} (hS : ∀ t, S.get t = none) {st : List Step} {t s : Step} {i f : Nat} (h : IsFirst st t i f) (hs : st[f]? = some s) : (runTo S st i).refuse t = (decide (f < i) && !decide (s.out = t.out)) := by
  by_cases hf : f < i
  · have := get_hit hS h hf hs
    simp [St.refuse, this, hf]
  · have hfi : f = i := by have := h.le; omega
    have h0 : (runTo S st i).get t = none := get_none hS i (by rw [← hfi]; exact h.none)
    simp [St.refuse, h0, hf]

/-- At the end: the first answer at each key. -/
theorem end_first {S : St} (hS : ∀ t, S.get t = none) {st : List Step} {t s : Step} {i f : Nat} (ht : st[i]? = some t) (h : IsFirst st t i f) (hs : st[f]? = some s) : (runTo S st st.length).get t = some s.out := by
  have hi : i < st.length := (List.getElem?_eq_some_iff.1 ht).1
  have h1 : (runTo S st (i + 1)).get t = some s.out := by
    by_cases hf : f < i
    · rw [runTo_succ ht]; exact step_mono (get_hit hS h hf hs)
    · have hfi : f = i := by have := h.le; omega
      subst hfi
      rw [ht] at hs; cases hs
      have h0 : (runTo S st f).get t = none := get_none hS f h.none
      rw [runTo_succ ht]
      unfold St.step
      have hn : (runTo S st f).refuse t = false := by simp [St.refuse, h0]
      rw [hn]
      simpa using get_put_same (S := runTo S st f) (s := t) (t := t) ⟨rfl, by split <;> rfl⟩
  have := runTo_mono h1 (st.length - (i + 1))
  rwa [show i + 1 + (st.length - (i + 1)) = st.length from by omega] at this

/-- Is step k the first of its key, and of role r? -/
def newAt (st : List Step) (r k : Nat) : Bool := match st[k]? with
  | some s => decide (s.role = r) && decide (firstOf st s k = k)
  | none => false
def cF (st : List Step) (r : Nat) : Nat → Nat
  | 0 => 0
  | k + 1 => cF st r k + (if newAt st r k then 1 else 0)
theorem newAt_eq {st : List Step} {r k : Nat} {s : Step} (h : st[k]? = some s) : newAt st r k = (decide (s.role = r) && decide (firstOf st s k = k)) := by simp [newAt, h]
theorem cF_le (st : List Step) (r : Nat) : ∀ k, cF st r k ≤ k
  | 0 => Nat.le_refl _
  | k + 1 => by
    have := cF_le st r k
    unfold cF
    split <;> omega

theorem cnt_first {S : St} (hS : ∀ t, S.get t = none) {st : List Step} {r : Nat} (hr : r < 3) (hc : S.cnt r = 0) : ∀ k, (runTo S st k).cnt r = cF st r k
  | 0 => hc
  | k + 1 => by
    have ih := cnt_first (st := st) hS hr hc k
    cases hs : st[k]? with
    | none => simp only [runTo, hs, cF, newAt]; simpa using ih
    | some s =>
      rw [runTo_succ hs]
      unfold cF
      rw [newAt_eq hs, ← ih]
      have hF := firstOf_is st s k
      by_cases hf : firstOf st s k = k
      · have h0 : (runTo S st k).get s = none := get_none hS k (by rw [← hf]; exact hF.none)
        have hn : (runTo S st k).refuse s = false := by simp [St.refuse, h0]
        unfold St.step St.put
        rw [hn]
        simp only [Bool.false_eq_true, if_false]
        by_cases h3 : s.role = 3
        · have hne : s.role ≠ r := by omega
          simp [h3, St.putX]
          omega
        · unfold St.get at h0
          rw [if_neg h3] at h0
          simp only [h3, if_false, St.putA, h0]
          by_cases er : s.role = r
          · subst er; simp [hf]
          · have er' : ¬ r = s.role := fun e => er e.symm
            simp [er, er']
      · have hlt : firstOf st s k < k := by have := hF.le; omega
        obtain ⟨s', h1, _⟩ := hF.hit hlt
        have hg := get_hit hS hF hlt h1
        simp only [hf, decide_false, Bool.and_false, Bool.false_eq_true, if_false, Nat.add_zero]
        unfold St.step
        split
        · rfl
        · rename_i hn
          have hput : ((runTo S st k).put s).cnt r = (runTo S st k).cnt r := by
            unfold St.put
            split
            · rfl
            · rename_i h3
              unfold St.get at hg
              rw [if_neg h3] at hg
              simp only [St.putA, hg]
              split
              · rename_i e; simp [e]
              · rfl
          exact hput

end Go.Proofs.Qxb6618722aFmt
