/-
  bytes.NewReader, (*bytes.Reader).Read, io.ReadAtLeast, io.ReadFull.
-/
import Derived.Test.Qxb6618665aDoorFnsA
import Derived.Laws.CopyOwn
import Derived.Deep.RegionHeld3
import Derived.Deep.DrawnRows
namespace Go.Proofs.Qxb6618665aDoor
open Go.RowKit
set_option linter.unusedVariables false

theorem off_add (b o j : Nat) : (⟨b, o, none⟩ : Addr).add j = ⟨b, o + j, none⟩ := by unfold Addr.add; split <;> simp_all

/-- All blocks but those of S are as they were. -/
structure Fr (S : List Nat) (w w' : World) : Prop where
  os : w'.os = w.os
  tape : w'.tape = w.tape
  output : w'.output = w.output
  size : w.heap.size ≤ w'.heap.size
  block : ∀ k, k < w.heap.size → k ∉ S → w'.heap[k]? = w.heap[k]?

theorem Fr.refl (S : List Nat) (w : World) : Fr S w w := ⟨rfl, rfl, rfl, Nat.le_refl _, fun _ _ _ => rfl⟩
theorem Fr.trans {S : List Nat} {a b c : World} (h : Fr S a b) (k : Fr S b c) : Fr S a c :=
  ⟨k.os.trans h.os, k.tape.trans h.tape, k.output.trans h.output, Nat.le_trans h.size k.size, fun i hi hn => (k.block i (Nat.lt_of_lt_of_le hi h.size) hn).trans (h.block i hi hn)⟩
theorem Fr.mono {S T : List Nat} {a b : World} (h : Fr S a b) (hs : ∀ x, x ∈ S → x ∈ T) : Fr T a b := ⟨h.os, h.tape, h.output, h.size, fun i hi hn => h.block i hi (fun hx => hn (hs _ hx))⟩
theorem Fr.grown {S : List Nat} {a b c : World} {g : Nat} (h : Fr S a b) (k : b.grownBy c (some g)) (hg : g ∈ S) : Fr S a c :=
  ⟨k.os.trans h.os, k.tape.trans h.tape, k.output.trans h.output, Nat.le_trans h.size k.size, fun i hi hn => (k.block i (Nat.lt_of_lt_of_le hi h.size) (by simp; rintro rfl; exact hn hg)).trans (h.block i hi hn)⟩
theorem Fr.draws {S : List Nat} {a b : World} (h : Fr S a b) (n : Nat) : Fr S a (b.drewN n) := ⟨h.os, h.tape, h.output, h.size, h.block⟩
theorem Fr.cell {S : List Nat} {a b : World} (h : Fr S a b) {x : Addr} {v : Value} (hc : a.cell? x = some v) (hx : x.block ∉ S) : b.cell? x = some v :=
  (World.cell?_of_block (h.block x.block (World.block_lt_of_cell? _ _ hc) hx)).trans hc

/-- copy INTO A ROW THAT IS KNOWN WHOLE, as one step of a region that draws its order: the row's cells 'cs' laid over it from 'off' on; all other blocks as they were. -/
theorem step_copy_row {P : Program} {ops : Array Oper} {o : Oper} {a : Act} {w : World} {K : Act → World → Prop} {Q : Exit → Act → World → Prop} {E : Prop} (hgd : o.guard = none) (d s : Operand) (dT sT : TypeId)
    (ho : o.op = .call { callee := .builtin .copy, args := #[d, s], argTypes := #[dT, sT] }) (elem : TypeId) (hu : P.underlying dT = some (.slice elem)) (hsz : (P.info? elem).map (·.size) = some 1)
    (dp sp : Addr) (dLen dCap sLen sCap : Nat) (hd : a.eval d = .slice (some dp) dLen dCap) (hs : a.eval s = .slice (some sp) sLen sCap)
    (g off : Nat) (cur : List Value) (t : TypeId) (hdp : dp = ⟨g, off, none⟩) (hg : w.heap[g]? = some (.cells cur.toArray t (0, 0))) (cs : List Value) (hn : cs.length = Nat.min sLen dLen)
    (hsrc : ∀ j v, cs[j]? = some v → w.cell? (sp.add j) = some v)
    (hfit : off + cs.length ≤ cur.length) (h1 : ∀ v ∈ cs, v.oneCell' = true)
    (h : ∀ w', Hid (w'.heap[g]? = some (.cells (splice cur off cs).toArray t (0, 0)) ∧ w.grownBy w' (some g)) → K (a.put o.dst (goInt cs.length)) w') :
    if Region.wanted o (yielded ops a.tmps) = true then Oper.wp P o a w K Q else E := by
  have hw : Region.wanted o (yielded ops a.tmps) = true := by simp [Region.wanted, hgd]
  rw [if_pos hw]
  subst hdp
  have hrun := run_copy_row (P := P) w dT sT o.type elem g off dLen dCap sp sLen sCap cur.toArray t cs hu hsz hg hn hsrc (by simpa using hfit) h1
  unfold Oper.wp
  simp [execOp, ho, resolve, invoke, builtin, hd, hs, hrun, Result.andThen]
  exact h _ ⟨by simpa [splice] using setRow_heap w g _ _ t _ hg, ⟨rfl, rfl, rfl, by simp [World.setRow], fun k _ hk => setRow_other w g k _ (by simpa using hk)⟩⟩

/-- A bytes.Reader at the head of block b: over the slice value d, at place p. -/
structure Rd (w : World) (b : Nat) (d : Value) (p : Nat) : Prop where
  c0 : w.cell? ⟨b, 0, none⟩ = some d
  c1 : w.cell? ⟨b, 1, none⟩ = some (.int .i64 p)
  c2 : ∃ r, w.cell? ⟨b, 2, none⟩ = some (.int .i64 r)
  fz : ∀ i, w.frozen? ⟨b, i, none⟩ = false

/-- Read at the end: 0, io.EOF. -/
theorem read_end (b : Nat) (fa : Option Addr) (n fc p : Nat) (dst : Value) (e0 : Value) (w : World) (h : Rd w b (.slice fa n fc) p) (hp : n ≤ p) (he : w.cell? ⟨0, 0, none⟩ = some e0) :
    Calls Tryd.prog 37 #[.pointer (some ⟨b, 0, none⟩), dst] w fun e w' => e = .returned (.tuple #[.int .i64 0, e0]) ∧ ∃ k, w' = w.drewN k := by
  have c0 := h.c0
  have c1 := h.c1
  have hpn : (n : Int) ≤ (p : Int) := by omega
  go_enter Tryd.func37, Tryd.ntmps37
  go_wp2
  go_quiet (fail)
  go_wp2
  go_quiet (fail)
  go_wp2
  go_ret2
  exact ⟨rfl, _, World.drewN_drewN ..⟩

theorem Rd.of_block {w w' : World} {b : Nat} {d : Value} {p : Nat} (h : Rd w b d p) (e : w'.heap[b]? = w.heap[b]?) : Rd w' b d p :=
  ⟨(World.cell?_of_block (a := ⟨b, 0, none⟩) e).trans h.c0, (World.cell?_of_block (a := ⟨b, 1, none⟩) e).trans h.c1, h.c2.elim fun r hr => ⟨r, (World.cell?_of_block (a := ⟨b, 2, none⟩) e).trans hr⟩, fun i => (World.frozen?_of_block (a := ⟨b, i, none⟩) e).trans (h.fz i)⟩

/-- Read ahead of the end: as many bytes as there are, and as fit, go over. -/
theorem read_some (b fb fo n fc p g o m c q : Nat) (cur cs : List Value) (w : World) (h : Rd w b (.slice (some ⟨fb, fo, none⟩) n fc) p) (hn : n ≤ 1048576) (hnc : n ≤ fc) (hfc : fc ≤ 1048576) (hp : p < n) (hm : 0 < m) (hm2 : m ≤ 1048576)
    (hgb : g ≠ b) (hg : w.heap[g]? = some (.cells cur.toArray 5 (0, 0))) (hcs : cs.length = q) (hq : q = min (n - p) m) (hsrc : ∀ j v, cs[j]? = some v → w.cell? ⟨fb, fo + p + j, none⟩ = some v) (hfb : fb ≠ b) (hfit : o + cs.length ≤ cur.length) (h1 : ∀ v ∈ cs, v.oneCell' = true) :
    Calls Tryd.prog 37 #[.pointer (some ⟨b, 0, none⟩), .slice (some ⟨g, o, none⟩) m c] w fun e w' => e = .returned (.tuple #[.int .i64 q, .nilIface]) ∧
      Rd w' b (.slice (some ⟨fb, fo, none⟩) n fc) (p + q) ∧ w'.heap[g]? = some (.cells (splice cur o cs).toArray 5 (0, 0)) ∧ Fr [b, g] w w' := by
  obtain ⟨c0, c1, ⟨r, c2⟩, fz⟩ := h
  have f1 := fz 1
  have f2 := fz 2
  have hpn : ¬ (n : Int) ≤ (p : Int) := by omega
  have hp0 : (0 : Int) ≤ (p : Int) := by omega
  have hpn2 : (p : Int) ≤ (n : Int) := by omega
  have hpn3 : (n : Int) ≤ (fc : Int) := by omega
  have e1 : ¬ fc = p := by omega
  have hd : decide (n ≤ p) = false := by simp; exact hp
  have HQ : Hid (cs.length = Nat.min (n - p) m) := hcs.trans hq
  have q1 : p + q ≤ n := by omega
  have q2 : q ≤ m := by omega
  clear hq
  rw [hcs] at hfit
  have hsz : (Tryd.prog.info? 5).map (·.size) = some 1 := by kernel_rfl
  have HF : Hid (w.heap[g]? = some (.cells cur.toArray 5 (0, 0)) ∧ ∀ j v, cs[j]? = some v → w.cell? ⟨fb, fo + p + j, none⟩ = some v) := ⟨hg, hsrc⟩
  have HH : Hid (∀ i, w.frozen? ⟨b, i, none⟩ = false) := fz
  clear hg hsrc fz
  go_enter Tryd.func37, Tryd.ntmps37
  go_wp2
  go_quiet (fail)
  go_wp2
  have HW : ∀ q, Fr [b, g] w ((w.drewN q).setCell ⟨b, 2, none⟩ (.int .i64 (-1))) := fun q => ((Fr.refl [b, g] w).draws q).grown (grownBy_setCell _ b 2 _) (by simp)
  have HG : Hid (((w.drewN nq).setCell ⟨b, 2, none⟩ (.int .i64 (-1))).heap[g]? = some (.cells cur.toArray 5 (0, 0)) ∧ (∀ j v, cs[j]? = some v → ((w.drewN nq).setCell ⟨b, 2, none⟩ (.int .i64 (-1))).cell? ⟨fb, fo + p + j, none⟩ = some v) ∧ Fr [b, g] w ((w.drewN nq).setCell ⟨b, 2, none⟩ (.int .i64 (-1))) ∧ ∀ i, ((w.drewN nq).setCell ⟨b, 2, none⟩ (.int .i64 (-1))).frozen? ⟨b, i, none⟩ = false) :=
    ⟨(Below.heap_setCell _ _ _ _ hgb).trans HF.out.1, fun j v hj => (World.cell?_setCell_other _ _ _ _ (by intro e; exact hfb (congrArg Addr.block e).symm)).trans (HF.out.2 j v hj), HW nq, fun i => (World.frozen?_setCell _ _ _ _).trans (HH.out i)⟩
  have k0 : ((w.drewN nq).setCell ⟨b, 2, none⟩ (.int .i64 (-1))).cell? ⟨b, 0, none⟩ = some (.slice (some ⟨fb, fo, none⟩) n fc) := (World.cell?_setCell_other _ _ _ _ (by simp)).trans c0
  have k1 : ((w.drewN nq).setCell ⟨b, 2, none⟩ (.int .i64 (-1))).cell? ⟨b, 1, none⟩ = some (.int .i64 p) := (World.cell?_setCell_other _ _ _ _ (by simp)).trans c1
  have k2 : ((w.drewN nq).setCell ⟨b, 2, none⟩ (.int .i64 (-1))).cell? ⟨b, 2, none⟩ = some (.int .i64 (-1)) := World.cell?_setCell_same _ _ _ c2
  generalize (w.drewN nq).setCell ⟨b, 2, none⟩ (.int .i64 (-1)) = W at *
  clear HF HH HW c0 c1 c2 f1 f2
  have HS : Hid (∀ j v, cs[j]? = some v → W.cell? ((⟨fb, fo + p, none⟩ : Addr).add j) = some v) := fun j v hj => by rw [off_add]; exact HG.out.2.1 j v hj
  go_region_held3 (fun w' => w'.cell? ⟨b, 0, none⟩ = some (.slice (some ⟨fb, fo, none⟩) n fc) ∧ w'.cell? ⟨b, 1, none⟩ = some (.int .i64 p)) (go_keep)
    ((refine step_copy_row (by rfl) (.tmp 20) (.tmp 29) 22 22 (by rfl) 5 Tryd.underlying22 hsz ⟨g, o, none⟩ ⟨fb, fo + p, none⟩ m c (n - p) (fc - p) (by rfl) (by rfl) g o cur 5 rfl HG.out.1 cs HQ.out HS.out (by rw [hcs]; exact hfit) h1 ?_; intro w1 hH; have z0 := hH.out.2.cell k0 (by simpa using Ne.symm hgb); have z1 := hH.out.2.cell k1 (by simpa using Ne.symm hgb)))
  have f1 : w1.frozen? ⟨b, 1, none⟩ = false := (hH.out.2.frozen_far ⟨b, 1, none⟩ (World.block_lt_of_cell? W _ k1) (by simpa using Ne.symm hgb)).trans (HG.out.2.2.2 1)
  have z2 := hH.out.2.cell k2 (by simpa using Ne.symm hgb)
  have HZ : Hid (Rd (w1.setCell ⟨b, 1, none⟩ (.int .i64 ((p : Int) + (q : Int)))) b (.slice (some ⟨fb, fo, none⟩) n fc) (p + q) ∧ (w1.setCell ⟨b, 1, none⟩ (.int .i64 ((p : Int) + (q : Int)))).heap[g]? = some (.cells (splice cur o cs).toArray 5 (0, 0)) ∧ Fr [b, g] w (w1.setCell ⟨b, 1, none⟩ (.int .i64 ((p : Int) + (q : Int))))) := by
    refine ⟨⟨(World.cell?_setCell_other _ _ _ _ (by simp)).trans z0, World.cell?_setCell_same _ _ _ z1, ⟨_, (World.cell?_setCell_other _ _ _ _ (by simp)).trans z2⟩, fun i => ?_⟩, (Below.heap_setCell _ _ _ _ hgb).trans hH.out.1, ?_⟩
    · exact (World.frozen?_setCell _ _ _ _).trans ((hH.out.2.frozen_far ⟨b, i, none⟩ (show b < W.heap.size from World.block_lt_of_cell? W ⟨b, 1, none⟩ k1) (by simpa using Ne.symm hgb)).trans (HG.out.2.2.2 i))
    · exact ((HG.out.2.2.1.draws 1).grown hH.out.2 (by simp)).grown (grownBy_setCell _ b 1 _) (by simp)
  clear HG HS hH
  go_wp2
  go_ret2
  exact ⟨rfl, HZ.out.1, HZ.out.2.1, HZ.out.2.2⟩

end Go.Proofs.Qxb6618665aDoor
