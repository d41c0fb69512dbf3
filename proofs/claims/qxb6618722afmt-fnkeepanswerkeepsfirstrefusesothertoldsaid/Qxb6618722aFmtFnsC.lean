/-
  Seat b6618722aF: the judge is made: ZZnewJudge, ZZjudgeAddRole, ZZjudgeAddExtra, zzJudgeFor.
-/
import Derived.Test.Qxb6618722aFmtFnsB
namespace Go.Proofs.Qxb6618722aFmt
open Go.RowKit Go.Maps
set_option linter.unusedVariables false
set_option maxRecDepth 4000

def jc (a b : Nat) : List Value := [.map none, .slice none 0 0, .pointer none] ++ List.replicate 32 (.int .u8 0) ++ [.map none, .map none, .map none, .map none, .map (some a), .slice none 0 0, .map none, .map none, .map none, .map none, .map (some b), .slice none 0 0]
theorem build88 (a b : Nat) (w : World) : (Instr.build 88 #[(8, .map (some a)), (14, .map (some b))]).run Tryf.prog w = .ok (.agg (jc a b).toArray) w := run_build w 88 _ _ (by kernel_rfl)

theorem Mp.grow {P : Program} {k : TypeId} {w w' : World} {b n : Nat} {f : Lit → Option Value} (h : Mp P k w b n f) {row : Option Nat} (g : w.grownBy w' row) (hne : some b ≠ row) : Mp P k w' b n f := h.of_block (g.block b h.lt hne)

set_option maxHeartbeats 1000000 in
theorem new_any (w : World) :
    Calls Tryf.prog 18 #[] w fun e w' => e = .returned (.pointer (some ⟨w.heap.size + 2, 0, none⟩)) ∧ w'.cell? ⟨w.heap.size + 2, 39, none⟩ = some (.map (some w.heap.size)) ∧ w'.cell? ⟨w.heap.size + 2, 45, none⟩ = some (.map (some (w.heap.size + 1))) ∧
      Mp Tryf.prog 62 w' w.heap.size 0 (fun _ => none) ∧ Mp Tryf.prog 44 w' (w.heap.size + 1) 0 (fun _ => none) ∧ w.grownBy w' none ∧ w'.heap.size = w.heap.size + 3 := by
  have hmm := @run_makeMap Tryf.prog
  have kb := build88
  go_enter Tryf.func18, Tryf.ntmps18
  go_wp2_with (first
    | (refine wpList_boxG rfl 88 _ rfl (jc w.heap.size (w.heap.size + 1)) rfl ?_
       intro w1 n1))
  refine bodyPost_ret (results_tmp rfl _ _ _) rfl ?_
  have m1 := Mp.made w Tryf.prog 62
  have m2 := Mp.made (w.alloc (Obj.map #[] 0)) Tryf.prog 44
  have g1 := World.grownBy_alloc w (Obj.map #[] 0) none
  have g2 := World.grownBy_alloc (w.alloc (Obj.map #[] 0)) (Obj.map #[] 0) none
  have z := n1.size
  have q1 := n1.range 39 _ (by rfl : (jc w.heap.size (w.heap.size + 1))[39]? = some (.map (some w.heap.size)))
  have q2 := n1.range 45 _ (by rfl : (jc w.heap.size (w.heap.size + 1))[45]? = some (.map (some (w.heap.size + 1))))
  simp only [World.size_alloc] at z q1 q2 m2
  exact ⟨rfl, q1, q2, (m1.grow g2 (by simp)).grow n1.grown (by simp), m2.grow n1.grown (by simp), (g1.trans g2).trans n1.grown, z⟩

/-- The world behind 'm[k] = v'. -/
def stw (P : Program) (t : TypeId) (b : Nat) (key val : Value) (w : World) : World :=
  match (Instr.mapUpdate t (.map (some b)) key val).run P w with
  | .ok _ w' => w'
  | .halt _ w' => w'
structure Put (k : TypeId) (w w' : World) (b n : Nat) (f : Lit → Option Value) (kl : Lit) (val : Value) : Prop where
  map : Mp Tryf.prog k w' b (if (f kl).isSome then n else n + 1) (upd f kl val)
  grown : w.grownBy w' (some b)
  size : w'.heap.size = w.heap.size
theorem stw_spec {k : TypeId} {w : World} {b n : Nat} {f : Lit → Option Value} (h : Mp Tryf.prog k w b n f) {t e : TypeId} (K : Keyed Tryf.prog k) (ht : Tryf.prog.underlying t = some (.map k e)) (hn : n < maxLen) {key val : Value} {kl : Lit} (hkey : keyOf Tryf.prog k key = some kl) :
    (Instr.mapUpdate t (.map (some b)) key val).run Tryf.prog w = .ok () (stw Tryf.prog t b key val w) ∧ Put k w (stw Tryf.prog t b key val w) b n f kl val := by
  obtain ⟨w', h1, h2, h3, h4⟩ := h.store K ht hn (val := val) hkey
  have e : stw Tryf.prog t b key val w = w' := by unfold stw; rw [h1]
  rw [e]
  exact ⟨h1, h2, h3, h4⟩

theorem wpList_mapUpdateG {ops : Array Oper} {rest : List Oper} {op : Oper} {a : Act} {w : World} {Q : Exit → Act → World → Prop} (hgd : op.guard = none) (t : TypeId) (m x v : Operand) (ho : op.op = .mapUpdate t m x v) (b : Nat) (hm : a.eval m = .map (some b)) (key val : Value) (hx : a.eval x = key) (hv : a.eval v = val)
    {k e n : Nat} {f : Lit → Option Value} {kl : Lit} (K : Keyed Tryf.prog k) (ht : Tryf.prog.underlying t = some (.map k e)) (h : Mp Tryf.prog k w b n f) (hn : n < maxLen) (hkey : keyOf Tryf.prog k key = some kl)
    (hK : ∀ w', Put k w w' b n f kl val → wpList Tryf.prog ops Q rest (a.put op.dst undef) w') : wpList Tryf.prog ops Q (op :: rest) a w := by
  refine wpList_plain hgd fun K' hK' => ?_
  obtain ⟨h1, h2⟩ := stw_spec h K ht hn (val := val) hkey
  unfold Oper.wp
  simp [execOp, ho, hm, hx, hv, h1, Result.andThen]
  exact hK' _ _ (hK _ h2)

theorem lt_maxLen {n : Nat} (h : n ≤ 100000) : n < maxLen := by unfold maxLen; omega

set_option maxHeartbeats 1000000 in
theorem addRole_any (lo n : Nat) (f : Lit → Option Value) (r : Nat) (w : World) (hr : r < 3) (hc : w.cell? ⟨lo + 2, 39, none⟩ = some (.map (some lo))) (hm : Mp Tryf.prog 62 w lo n f) (hn : n ≤ 1000) :
    Calls Tryf.prog 19 #[.pointer (some ⟨lo + 2, 0, none⟩), .int .u8 r] w fun e w' => e = .returned (.tuple #[]) ∧ (∃ n', n' ≤ n + 1 ∧ Mp Tryf.prog 62 w' lo n' (upd f (.int .u8 r) (.map (some w.heap.size)))) ∧
      Mp Tryf.prog 27 w' w.heap.size 0 (fun _ => none) ∧ w.grownBy w' (some lo) ∧ w'.heap.size = w.heap.size + 1 := by
  have hmm := @run_makeMap Tryf.prog
  have g1 := World.grownBy_alloc w (Obj.map #[] 0) none
  have H0 : Hid (Mp Tryf.prog 62 (w.alloc (Obj.map #[] 0)) lo n f) := hm.grow g1 (by simp)
  have H1 : Hid (lo < w.heap.size) := hm.lt
  clear hm
  go_enter Tryf.func19, Tryf.ntmps19
  go_wp2_with (first
    | (refine wpList_mapUpdateG rfl 79 _ _ _ rfl lo rfl _ _ rfl rfl law62 Tryf.underlying79 H0.out (lt_maxLen (by omega)) (keyOf_int_mk Tryf.underlying62 (wf62 hr)) ?_
       intro w2 p2))
  refine bodyPost_end (results_none rfl _ _ _) rfl ?_
  have hlt := H1.out
  have m2 := Mp.made w Tryf.prog 27
  refine ⟨rfl, ⟨_, ?_, p2.map⟩, m2.grow p2.grown (by simp; omega), (World.grownBy_alloc w (Obj.map #[] 0) (some lo)).trans p2.grown, by rw [p2.size]; simp⟩
  split <;> omega

def ec : List Value := [.int .i64 0] ++ List.replicate 32 (.int .u8 0) ++ [.slice none 0 0, .slice none 0 0, .nilIface, .nilIface, .bool false, .bool false] ++ List.replicate 32 (.int .u8 0)
theorem build95 (w : World) : (Instr.build 95 #[]).run Tryf.prog w = .ok (.agg ec.toArray) w := run_build w 95 _ _ (by kernel_rfl)

/-- The judge's map of extra verifiers, of at most n + 1 entries. -/
def XS (lo n : Nat) (w : World) : Prop := w.cell? ⟨lo + 2, 45, none⟩ = some (.map (some (lo + 1))) ∧ ∃ n' f', n' ≤ n + 1 ∧ Mp Tryf.prog 44 w (lo + 1) n' f'
theorem XS.grow {lo n : Nat} {w w' : World} (h : XS lo n w) (g : w.grownBy w' none) : XS lo n w' := by
  obtain ⟨h1, n', f', h2, h3⟩ := h
  exact ⟨g.cell h1 (by simp), n', f', h2, h3.grow g (by simp)⟩
theorem XS.drew {lo n : Nat} {w : World} (h : XS lo n w) : XS lo n w.drew := h.grow ⟨rfl, rfl, rfl, Nat.le_refl _, fun _ _ _ => rfl⟩
theorem XS.alloc {lo n : Nat} {w : World} (h : XS lo n w) (o : Obj) : XS lo n (w.alloc o) := h.grow (World.grownBy_alloc w o none)
theorem mp_of_put {k : TypeId} {w w' : World} {b n : Nat} {f : Lit → Option Value} {kl : Lit} {v : Value} (p : Put k w w' b n f kl v) : ∃ n' f', n' ≤ n + 1 ∧ Mp Tryf.prog k w' b n' f' := ⟨_, _, by split <;> omega, p.map⟩

theorem grown_ad (w : World) (o : Obj) : w.grownBy (w.alloc o).drew none := (World.grownBy_alloc w o none).trans ⟨rfl, rfl, rfl, Nat.le_refl _, fun _ _ _ => rfl⟩

set_option maxHeartbeats 2000000 in
theorem addExtra_any (lo n : Nat) (f : Lit → Option Value) (sg : List Int) (w : World) (hg : Good sg) (hc : w.cell? ⟨lo + 2, 45, none⟩ = some (.map (some (lo + 1)))) (hm : Mp Tryf.prog 44 w (lo + 1) n f) (hn : n ≤ 5000) :
    Calls Tryf.prog 20 #[.pointer (some ⟨lo + 2, 0, none⟩), A sg] w fun e w' => e = .returned (.tuple #[]) ∧ (∃ n', n' ≤ n + 1 ∧ Mp Tryf.prog 44 w' (lo + 1) n' (upd f (ky sg) (.pointer (some ⟨w.heap.size + 1, 0, none⟩)))) ∧
      w'.rangeAt (w.heap.size + 1) 0 ec ∧ w'.there (w.heap.size + 1) 0 71 ∧ w.grownBy w' (some (lo + 1)) ∧ w'.heap.size = w.heap.size + 2 := by
  have H0 : Hid (Mp Tryf.prog 44 w (lo + 1) n f) := hm
  clear hm
  go_enter Tryf.func20, Tryf.ntmps20
  go_wp2_with (first
    | (refine wpList_boxG rfl 26 _ rfl (ar sg) rfl ?_
       intro w1 n1
       have H1 : Hid (Mp Tryf.prog 44 w1 (lo + 1) n f) := H0.out.grow n1.grown (by simp)
       have c1 := n1.grown.cell hc (by simp)))
  have u26 := Tryf.underlying26
  have i26 : (Tryf.prog.info? 26).map (·.size) = some (ar sg).length := by rw [hg.ar]; exact size26
  have l32 : (ar sg).length = 32 := hg.ar
  have o1 := ar_one sg
  have r1 := n1.range
  have hlt := H1.out.lt
  have x1 : XS lo n w1 := ⟨c1, n, f, by omega, H1.out⟩
  have kc : ∀ W, XS lo n W → W.cell? ⟨lo + 2, 45, none⟩ = some (.map (some (lo + 1))) := fun W h => h.1
  have kb := build95
  have kst : ∀ (W : World) (v : Value), XS lo n W → (Instr.mapUpdate 85 (.map (some (lo + 1))) (.agg (ar sg).toArray) v).run Tryf.prog W = .ok () (stw Tryf.prog 85 (lo + 1) (.agg (ar sg).toArray) v W) :=
    fun W v ⟨_, n', f', h1, h2⟩ => (stw_spec h2 law44 Tryf.underlying85 (lt_maxLen (by omega)) (keyOf_ky hg)).1
  have HP : Hid (∀ (W : World) (v : Value), w1.grownBy W none → Put 44 W (stw Tryf.prog 85 (lo + 1) (.agg (ar sg).toArray) v W) (lo + 1) n f (ky sg) v) := fun W v g =>
    (stw_spec (H1.out.grow g (by simp)) law44 Tryf.underlying85 (lt_maxLen (by omega)) (keyOf_ky hg)).2
  have hne : w.heap.size ≠ lo + 1 := fun e => by have := H0.out.lt; omega
  have HS : Hid (∀ (W : World) (v : Value), w1.grownBy W none → XS lo n (stw Tryf.prog 85 (lo + 1) (.agg (ar sg).toArray) v W) ∧ (stw Tryf.prog 85 (lo + 1) (.agg (ar sg).toArray) v W).rangeAt w.heap.size 0 (ar sg)) := fun W v g =>
    ⟨⟨(HP.out W v g).grown.cell (g.cell c1 (by simp)) (by simp), mp_of_put (HP.out W v g)⟩, rangeAt_grow (HP.out W v g).grown (rangeAt_grow g r1 (by simp)) (by simp; exact hne)⟩
  clear hlt
  go_region_held3 (fun w' => XS lo n w' ∧ w'.rangeAt w.heap.size 0 (ar sg)) (first
    | exact ⟨x1.drew, rangeAt_eq (w := w1) rfl r1⟩
    | exact ⟨XS.alloc (by assumption) _, World.rangeAt_alloc (by assumption) _⟩
    | exact (fun h => ⟨XS.alloc h.1 _, World.rangeAt_alloc h.2 _⟩) (by assumption)
    | exact HS.out _ _ (grown_ad w1 _)) (fail)
  refine bodyPost_end (results_none rfl _ _ _) rfl ?_
  have ez : Tryf.zeroCells95 = ec.toArray := by kernel_rfl
  rw [ez]
  have n2 := new_alloc w1 ec 95
  have e1 := n1.size
  have p := HP.out (w1.alloc (Obj.cells ec.toArray 95)).drew (Value.pointer (some ⟨w1.heap.size, 0, none⟩)) (grown_ad w1 _)
  generalize stw Tryf.prog 85 (lo + 1) (Value.agg (ar sg).toArray) (Value.pointer (some ⟨w1.heap.size, 0, none⟩)) (w1.alloc (Obj.cells ec.toArray 95)).drew = w3 at p ⊢
  have hlt := H0.out.lt
  have hne2 : w1.heap.size ≠ lo + 1 := by omega
  have q1 : (w1.alloc (Obj.cells ec.toArray 95)).drew.rangeAt w1.heap.size 0 ec := rangeAt_eq (w := w1.alloc (Obj.cells ec.toArray 95)) rfl n2.range
  have q2 : (w1.alloc (Obj.cells ec.toArray 95)).drew.there w1.heap.size 0 71 := there_eq (w := w1.alloc (Obj.cells ec.toArray 95)) rfl n2.there
  have q3 : (w1.alloc (Obj.cells ec.toArray 95)).drew.heap.size = w1.heap.size + 1 := by simp
  rw [← e1]
  refine ⟨rfl, ⟨_, ?_, p.map⟩, rangeAt_grow p.grown q1 (by simp; exact hne2), there_grow p.grown (by omega) q2 (by simp; exact hne2), ?_, by rw [p.size, q3]; omega⟩
  · split <;> omega
  · have g1 : w.grownBy w1 (some (lo + 1)) := ⟨n1.grown.os, n1.grown.tape, n1.grown.output, n1.grown.size, fun k hk _ => n1.grown.block k hk (by simp)⟩
    have g := grown_ad w1 (Obj.cells ec.toArray 95)
    have g2 : w1.grownBy (w1.alloc (Obj.cells ec.toArray 95)).drew (some (lo + 1)) := ⟨g.os, g.tape, g.output, g.size, fun k hk _ => g.block k hk (by simp)⟩
    exact (g1.trans g2).trans p.grown

end Go.Proofs.Qxb6618722aFmt
