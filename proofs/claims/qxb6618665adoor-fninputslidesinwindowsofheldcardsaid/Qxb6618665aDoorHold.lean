/-
  (*Input).Hold.
-/
import Derived.Test.Qxb6618665aDoorFull
namespace Go.Proofs.Qxb6618665aDoor
open Go.RowKit
set_option linter.unusedVariables false

/-- copy THAT TURNS NOTHING, as one step of a region that draws its order. -/
theorem step_copy_same {P : Program} {ops : Array Oper} {o : Oper} {a : Act} {w : World} {K : Act → World → Prop} {Q : Exit → Act → World → Prop} {E : Prop} (hgd : o.guard = none) (d s : Operand) (dT sT : TypeId)
    (ho : o.op = .call { callee := .builtin .copy, args := #[d, s], argTypes := #[dT, sT] }) (dv sv : Value) (hd : a.eval d = dv) (hs : a.eval s = sv) (k : Nat)
    (hrun : ∀ ty, (Builtin.copy_ #[dT, sT] ty #[dv, sv]).run P w = .ok (goInt k) w)
    (h : K (a.put o.dst (goInt k)) w) :
    if Region.wanted o (yielded ops a.tmps) = true then Oper.wp P o a w K Q else E := by
  have hw : Region.wanted o (yielded ops a.tmps) = true := by simp [Region.wanted, hgd]
  rw [if_pos hw]
  unfold Oper.wp
  simp [execOp, ho, resolve, invoke, builtin, hd, hs, hrun, Result.andThen]
  exact h

/-- copy INTO A ROW THAT IS KNOWN WHOLE, in a plain region. -/
theorem wpList_copy_rowW {P : Program} {w : World} {ops : Array Oper} {rest : List Oper} {o : Oper} {a : Act} {Q : Exit → Act → World → Prop} (hgd : o.guard = none) (d s : Operand) (dT sT : TypeId)
    (ho : o.op = .call { callee := .builtin .copy, args := #[d, s], argTypes := #[dT, sT] }) (elem : TypeId) (hu : P.underlying dT = some (.slice elem)) (hsz : (P.info? elem).map (·.size) = some 1)
    (dp sp : Addr) (dLen dCap sLen sCap : Nat) (hd : a.eval d = .slice (some dp) dLen dCap) (hs : a.eval s = .slice (some sp) sLen sCap)
    (g off : Nat) (cur : List Value) (t : TypeId) (hdp : dp = ⟨g, off, none⟩) (hg : w.heap[g]? = some (.cells cur.toArray t (0, 0))) (cs : List Value) (hn : cs.length = Nat.min sLen dLen)
    (hsrc : ∀ j v, cs[j]? = some v → w.cell? (sp.add j) = some v)
    (hfit : off + cs.length ≤ cur.length) (h1 : ∀ v ∈ cs, v.oneCell' = true)
    (h : ∀ w', Hid (w'.heap[g]? = some (.cells (splice cur off cs).toArray t (0, 0)) ∧ w.grownBy w' (some g)) → wpList P ops Q rest (a.put o.dst (goInt cs.length)) w') : wpList P ops Q (o :: rest) a w := by
  subst hdp
  refine wpList_copy_own hgd d s dT sT ho elem hu hsz g off dLen dCap sp sLen sCap hd hs cur.toArray t hg cs hn hsrc (by simpa using hfit) h1 ?_
  exact h _ ⟨by simpa [splice] using setRow_heap w g _ _ t _ hg, ⟨rfl, rfl, rfl, by simp [World.setRow], fun k _ hk => setRow_other w g k _ (by simpa using hk)⟩⟩

/-- The sentinels of package io, as the call finds them; all below block B. -/
structure Env (w : World) (B : Nat) (a0 a1 : Addr) : Prop where
  e0 : w.cell? ⟨0, 0, none⟩ = some (.iface 63 (.pointer (some a0)))
  e1 : w.cell? ⟨1, 0, none⟩ = some (.iface 63 (.pointer (some a1)))
  ne : a1 ≠ a0
  r0 : ∃ c t, w.heap[a0.block]? = some (.cells c t (0, 0))
  r1 : ∃ c t, w.heap[a1.block]? = some (.cells c t (0, 0))
  two : 1 < B
  b0 : a0.block < B
  b1 : a1.block < B
  le : B ≤ w.heap.size

theorem Env.fr {w w' : World} {B : Nat} {a0 a1 : Addr} {S : List Nat} (h : Env w B a0 a1) (hf : Fr S w w') (hS : ∀ x ∈ S, B ≤ x) : Env w' B a0 a1 := by
  have o : ∀ k, k < B → w'.heap[k]? = w.heap[k]? := fun k hk => hf.block k (Nat.lt_of_lt_of_le hk h.le) (fun hx => by have := hS _ hx; omega)
  refine ⟨(World.cell?_of_block (a := ⟨0, 0, none⟩) (o 0 (by have := h.two; omega))).trans h.e0, (World.cell?_of_block (a := ⟨1, 0, none⟩) (o 1 h.two)).trans h.e1, h.ne, ?_, ?_, h.two, h.b0, h.b1, Nat.le_trans h.le hf.size⟩
  · obtain ⟨c, t, hr⟩ := h.r0; exact ⟨c, t, (o _ h.b0).trans hr⟩
  · obtain ⟨c, t, hr⟩ := h.r1; exact ⟨c, t, (o _ h.b1).trans hr⟩

/-- An Input at the head of block i. -/
structure Inp (w : World) (i rb g L C : Nat) (eof : Bool) : Prop where
  c0 : w.cell? ⟨i, 0, none⟩ = some (.iface 33 (.pointer (some ⟨rb, 0, none⟩)))
  c1 : w.cell? ⟨i, 1, none⟩ = some (.slice (some ⟨g, 0, none⟩) L C)
  c2 : w.cell? ⟨i, 2, none⟩ = some (.bool eof)
  c3 : w.cell? ⟨i, 3, none⟩ = some .nilIface
  fz : ∀ k, w.frozen? ⟨i, k, none⟩ = false

theorem Inp.of_block {w w' : World} {i rb g L C : Nat} {eof : Bool} (h : Inp w i rb g L C eof) (e : w'.heap[i]? = w.heap[i]?) : Inp w' i rb g L C eof :=
  ⟨(World.cell?_of_block (a := ⟨i, 0, none⟩) e).trans h.c0, (World.cell?_of_block (a := ⟨i, 1, none⟩) e).trans h.c1, (World.cell?_of_block (a := ⟨i, 2, none⟩) e).trans h.c2, (World.cell?_of_block (a := ⟨i, 3, none⟩) e).trans h.c3, fun k => (World.frozen?_of_block (a := ⟨i, k, none⟩) e).trans (h.fz k)⟩
theorem Inp.lt {w : World} {i rb g L C : Nat} {eof : Bool} (h : Inp w i rb g L C eof) : i < w.heap.size := World.block_lt_of_cell? _ ⟨i, 0, none⟩ h.c0
theorem Inp.setBuf {w : World} {i rb g L C : Nat} {eof : Bool} (h : Inp w i rb g L C eof) (g' L' C' : Nat) : Inp (w.setCell ⟨i, 1, none⟩ (.slice (some ⟨g', 0, none⟩) L' C')) i rb g' L' C' eof :=
  ⟨(World.cell?_setCell_other _ _ _ _ (by simp)).trans h.c0, World.cell?_setCell_same _ _ _ h.c1, (World.cell?_setCell_other _ _ _ _ (by simp)).trans h.c2, (World.cell?_setCell_other _ _ _ _ (by simp)).trans h.c3, fun k => (World.frozen?_setCell _ _ _ _).trans (h.fz k)⟩
theorem Inp.setEof {w : World} {i rb g L C : Nat} {eof : Bool} (h : Inp w i rb g L C eof) (b : Bool) : Inp (w.setCell ⟨i, 2, none⟩ (.bool b)) i rb g L C b :=
  ⟨(World.cell?_setCell_other _ _ _ _ (by simp)).trans h.c0, (World.cell?_setCell_other _ _ _ _ (by simp)).trans h.c1, World.cell?_setCell_same _ _ _ h.c2, (World.cell?_setCell_other _ _ _ _ (by simp)).trans h.c3, fun k => (World.frozen?_setCell _ _ _ _).trans (h.fz k)⟩

theorem Rd.lt {w : World} {b : Nat} {d : Value} {p : Nat} (h : Rd w b d p) : b < w.heap.size := World.block_lt_of_cell? _ ⟨b, 0, none⟩ h.c0
theorem BufIs.lt {w : World} {g : Nat} {ys : List Int} (h : BufIs w g ys) : g < w.heap.size := (Array.getElem?_eq_some_iff.1 h).1
theorem SB.fr {w w' : World} {a : Option Addr} {zs : List Int} {S : List Nat} (h : SB w a zs) (hf : Fr S w w') (ha : ∀ x ∈ S, Apart a x) : SB w' a zs := by
  rcases h with h | ⟨c, off, rfl, hc⟩
  · exact .inl h
  · exact .inr ⟨c, off, rfl, fun i hi => hf.cell (hc i hi) (fun hx => ha _ hx _ rfl rfl)⟩

/-- All that a law knows of an Input over the bytes zs: the block of the Input i, of its reader rb, of its room g (the bytes ys, the first L of them held), the reader's place p. -/
structure St (w : World) (B : Nat) (a0 a1 : Addr) (i rb g L : Nat) (ys : List Int) (p : Nat) (eof : Bool) (fa : Option Addr) (zs : List Int) : Prop where
  env : Env w B a0 a1
  inp : Inp w i rb g L ys.length eof
  rd : Rd w rb (.slice fa zs.length zs.length) p
  buf : BufIs w g ys
  dat : SB w fa zs
  Bi : B ≤ i
  Br : B ≤ rb
  Bg : B ≤ g
  ir : i ≠ rb
  ig : i ≠ g
  rg : g ≠ rb
  di : Apart fa i
  dr : Apart fa rb
  dg : Apart fa g
  dl : ∀ x, fa = some x → x.block < w.heap.size
  Ll : L ≤ ys.length
  one : 1 ≤ ys.length
  cap : ys.length ≤ 524288
  pl : p ≤ zs.length
  zl : zs.length ≤ 65536

/-- The first copy of Hold turns nothing: keep = 0. -/
theorem copy_self (w : World) (g L : Nat) (ys : List Int) (hb : BufIs w g ys) (hL : L ≤ ys.length) (ty : TypeId) :
    (Builtin.copy_ #[22, 22] ty #[.slice (some ⟨g, 0, none⟩) ys.length ys.length, .slice (some ⟨g, 0, none⟩) L ys.length]).run Tryd.prog w = .ok (goInt L) w := by
  have hsz : (Tryd.prog.info? 5).map (·.size) = some 1 := by kernel_rfl
  have hl : (((ys.take L).map (Value.int .u8))).length = L := by simp; omega
  have := run_copy_row Tryd.prog w 22 22 ty 5 g 0 ys.length ys.length ⟨g, 0, none⟩ L ys.length ((ys.map (Value.int .u8)).toArray) 5 ((ys.take L).map (Value.int .u8)) Tryd.underlying22 hsz hb (by rw [hl]; exact (Nat.min_eq_left hL).symm)
    (fun j v hj => by
      rw [off_add]
      have hb' : w.heap[g]? = some (.cells (ys.map (Value.int .u8)).toArray 5 (0, 0)) := hb
      simp only [List.getElem?_map, List.getElem?_take] at hj
      by_cases hjl : j < L
      · rw [if_pos hjl] at hj
        simpa [World.cell?, hb'] using hj
      · rw [if_neg hjl] at hj; simp at hj) (by simp; omega) (fun v hv => by obtain ⟨x, _, rfl⟩ := List.mem_map.1 hv; rfl)
  have e : (((ys.map (Value.int .u8)).toArray).toList.take 0 ++ (ys.take L).map (Value.int .u8) ++ ((ys.map (Value.int .u8)).toArray).toList.drop (0 + ((ys.take L).map (Value.int .u8)).length)).toArray = (ys.map (Value.int .u8)).toArray := by
    rw [hl]
    simp [← List.map_take, ← List.map_drop, ← List.map_append]
  rw [this, e, hl, setRow_self w g _ 5 (0, 0) hb]

theorem copy_nought (w : World) (d a : Option Addr) (n c c' : Nat) (ty : TypeId) :
    (Builtin.copy_ #[22, 22] ty #[.slice d n c, .slice a 0 c']).run Tryd.prog w = .ok (goInt 0) w :=
  run_copy_none (P := Tryd.prog) w 22 22 ty 5 d a n c 0 c' Tryd.underlying22 (by kernel_rfl) (by simp)

end Go.Proofs.Qxb6618665aDoor
