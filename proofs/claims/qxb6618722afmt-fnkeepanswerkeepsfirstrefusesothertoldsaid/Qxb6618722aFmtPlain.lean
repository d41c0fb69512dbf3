/-
  Seat b6618722aF: the plain part: what a run of steps leaves.
-/
import Derived.Test.Qxb6618722aFmtKeepZ
namespace Go.Proofs.Qxb6618722aFmt
set_option linter.unusedVariables false

def St.step (S : St) (s : Step) : St := if S.refuse s then S else S.put s
/-- The judge behind the first k steps. -/
def runTo (S : St) (st : List Step) : Nat → St
  | 0 => S
  | k + 1 => match st[k]? with
    | some s => (runTo S st k).step s
    | none => runTo S st k
theorem runTo_succ {S : St} {st : List Step} {k : Nat} {s : Step} (h : st[k]? = some s) : runTo S st (k + 1) = (runTo S st k).step s := by
  simp [runTo, h]
/-- Was step k refused? -/
def rfAt (S : St) (st : List Step) (k : Nat) : Bool := match st[k]? with
  | some s => (runTo S st k).refuse s
  | none => false
theorem rfAt_eq {S : St} {st : List Step} {k : Nat} {s : Step} (h : st[k]? = some s) : rfAt S st k = (runTo S st k).refuse s := by
  simp [rfAt, h]

def SameKey (s t : Step) : Prop := s.role = t.role ∧ (if s.role = 3 then s.sg = t.sg else s.idx = t.idx)

theorem get_same {S : St} {s t : Step} (h : SameKey s t) : S.get s = S.get t := by
  obtain ⟨h1, h2⟩ := h
  unfold St.get
  rw [← h1]
  split
  · rename_i h3; rw [if_pos h3] at h2; rw [h2]
  · rename_i h3; rw [if_neg h3] at h2; rw [h2]

theorem get_put_same {S : St} {s t : Step} (h : SameKey s t) : (S.put s).get t = some s.out := by
  obtain ⟨h1, h2⟩ := h
  unfold St.get St.put
  rw [← h1]
  by_cases h3 : s.role = 3
  · rw [if_pos h3] at h2
    simp [h3, St.putX, h2]
  · rw [if_neg h3] at h2
    simp [h3, St.putA, h2]

theorem get_put_other {S : St} {s t : Step} (h : ¬ SameKey s t) : (S.put s).get t = S.get t := by
  unfold St.get St.put
  by_cases h3 : s.role = 3
  · by_cases t3 : t.role = 3
    · have : t.sg ≠ s.sg := fun e => h ⟨by rw [h3, t3], by rw [if_pos h3, e]⟩
      simp [h3, t3, St.putX, this]
    · simp [h3, t3, St.putX]
  · by_cases t3 : t.role = 3
    · simp [h3, t3, St.putA]
    · have : ¬ (t.role = s.role ∧ t.idx = s.idx) := fun ⟨e1, e2⟩ => h ⟨e1.symm, by rw [if_neg h3, e2]⟩
      simp [h3, t3, St.putA, this]

/-- What has been kept stays. -/
theorem step_mono {S : St} {s t : Step} {v : List Int} (h : S.get t = some v) : (S.step s).get t = some v := by
  unfold St.step
  cases hr : S.refuse s with
  | true => simpa using h
  | false =>
    simp only [Bool.false_eq_true, if_false]
    by_cases e : SameKey s t
    · rw [get_put_same e]
      rw [← get_same e] at h
      simp [St.refuse, h] at hr
      rw [hr]
    · rw [get_put_other e]; exact h

/-- Behind a step something is kept at its key; it is another answer just where the step was refused. -/
theorem step_get (S : St) (s : Step) : ∃ v, (S.step s).get s = some v ∧ S.refuse s = !decide (v = s.out) := by
  unfold St.step
  cases hr : S.refuse s with
  | true =>
    cases hg : S.get s with
    | none => simp [St.refuse, hg] at hr
    | some d =>
      refine ⟨d, by simpa using hg, ?_⟩
      simpa [St.refuse, hg] using hr
  | false => exact ⟨s.out, by simpa using get_put_same ⟨rfl, by split <;> rfl⟩, by simp⟩

theorem put_eq {S : St} {s : Step} (h : S.get s = some s.out) : S.put s = S := by
  unfold St.put
  unfold St.get at h
  split
  · rename_i h3
    rw [if_pos h3] at h
    unfold St.putX
    have : (fun x => if x = s.sg then some s.out else S.xv x) = S.xv := by
      funext x
      split
      · rename_i e; rw [e, h]
      · rfl
    rw [this]
  · rename_i h3
    rw [if_neg h3] at h
    unfold St.putA
    have e1 : (fun q => if q = s.role then (if (S.ans s.role s.idx).isSome then S.cnt s.role else S.cnt s.role + 1) else S.cnt q) = S.cnt := by
      funext q
      rw [h]
      split
      · rename_i e; simp [e]
      · rfl
    have e2 : (fun q j => if q = s.role ∧ j = s.idx then some s.out else S.ans q j) = S.ans := by
      funext q j
      split
      · rename_i e; rw [e.1, e.2, h]
      · rfl
    rw [e1, e2]

theorem runTo_mono {S : St} {st : List Step} {t : Step} {v : List Int} {j : Nat} (h : (runTo S st j).get t = some v) : ∀ m, (runTo S st (j + m)).get t = some v
  | 0 => h
  | m + 1 => by
    have ih := runTo_mono h m
    rw [← Nat.add_assoc]
    cases hs : st[j + m]? with
    | none => simp only [runTo, hs]; exact ih
    | some s => rw [runTo_succ hs]; exact step_mono ih

/-- At the end: each step's key holds an answer; it is another one just where the step was refused. -/
theorem end_get {S : St} {st : List Step} {k : Nat} {s : Step} (h : st[k]? = some s) : ∃ v, (runTo S st st.length).get s = some v ∧ rfAt S st k = !decide (v = s.out) := by
  have hk : k < st.length := (List.getElem?_eq_some_iff.1 h).1
  obtain ⟨v, h1, h2⟩ := step_get (runTo S st k) s
  rw [← runTo_succ h] at h1
  have := runTo_mono h1 (st.length - (k + 1))
  rw [show k + 1 + (st.length - (k + 1)) = st.length from by omega] at this
  exact ⟨v, this, by rw [rfAt_eq h]; exact h2⟩

/-- A replayed step is refused just where it was, and turns nothing. -/
theorem replay {S : St} {st : List Step} {k : Nat} {s : Step} (h : st[k]? = some s) : (runTo S st st.length).refuse s = rfAt S st k ∧ (rfAt S st k = false → (runTo S st st.length).put s = runTo S st st.length) := by
  obtain ⟨v, h1, h2⟩ := end_get (S := S) h
  refine ⟨by rw [h2]; simp [St.refuse, h1], fun hf => put_eq ?_⟩
  rw [h2] at hf
  simp at hf
  rw [h1, hf]

theorem step_ext (S : St) (s : Step) : (S.step s).ext = S.ext := by
  unfold St.step St.put
  split
  · rfl
  · split <;> rfl
theorem runTo_ext (S : St) (st : List Step) : ∀ k, (runTo S st k).ext = S.ext
  | 0 => rfl
  | k + 1 => by
    unfold runTo
    split
    · rw [step_ext]; exact runTo_ext S st k
    · exact runTo_ext S st k
theorem step_cnt (S : St) (s : Step) (r : Nat) : (S.step s).cnt r ≤ S.cnt r + 1 := by
  unfold St.step St.put
  split
  · omega
  · split
    · simp [St.putX]
    · simp only [St.putA]
      split
      · rename_i e; subst e; split <;> omega
      · omega
theorem runTo_cnt (S : St) (st : List Step) (r : Nat) : ∀ k, (runTo S st k).cnt r ≤ S.cnt r + k
  | 0 => Nat.le_refl _
  | k + 1 => by
    unfold runTo
    split
    · have := step_cnt (runTo S st k) ‹Step› r
      have := runTo_cnt S st r k
      omega
    · have := runTo_cnt S st r k
      omega

end Go.Proofs.Qxb6618722aFmt
