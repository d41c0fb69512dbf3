/-
  (*Input).Hold: its walk.
-/
import Derived.Test.Qxb6618665aDoorHold
import Derived.Deep.DeepCutAuto
namespace Go.Proofs.Qxb6618665aDoor
open Go.RowKit
set_option linter.unusedVariables false

/-- Ahead of the read: the room g' (C' bytes, of which the first kept are those that were kept). -/
structure Mid (w W : World) (B : Nat) (a0 a1 : Addr) (i rb g kept : Nat) (ys : List Int) (p : Nat) (eof : Bool) (fa : Option Addr) (zs : List Int) (g' L' C' : Nat) (ys' : List Int) : Prop where
  st : St W B a0 a1 i rb g' L' ys' p eof fa zs
  len : ys'.length = C'
  room : kept < C'
  same : ys'.take kept = ys.take kept
  fr : Fr [i, rb, g] w W
  at_ : g' = g ∨ w.heap.size ≤ g'

/-- What Hold leaves. -/
structure Done (w w' : World) (B : Nat) (a0 a1 : Addr) (i rb g kept C' q : Nat) (ys : List Int) (p : Nat) (eof : Bool) (fa : Option Addr) (zs : List Int) (g' : Nat) (ys' : List Int) : Prop where
  st : St w' B a0 a1 i rb g' (kept + q) ys' (p + q) (eof || decide (zs.length - p < C' - kept)) fa zs
  len : ys'.length = C'
  held : ys'.take (kept + q) = ys.take kept ++ (zs.drop p).take q
  fr : Fr [i, rb, g] w w'

/-- n zero bytes: behind a name, which the walk leaves standing. -/
def zeroRow (n : Nat) : List Int := List.replicate n 0
theorem zeroRow_length (n : Nat) : (zeroRow n).length = n := List.length_replicate

theorem madeCells_u8 (n : Nat) : madeCells #[Value.int .u8 0] n = ((zeroRow n).map (Value.int .u8)).toArray := by
  apply Array.ext
  · simp [madeCells, zeroRow]
  · intro k h1 h2
    simp [madeCells, zeroRow, Nat.mod_one]

theorem make_two (C kept : Nat) (hk : kept ≤ C) (hC : C ≤ 1048576) (w : World) : (Instr.makeSlice 22 (.int .i64 kept) (.int .i64 (2 * (C : Int)))).run Tryd.prog w =
    .ok (.slice (some ⟨w.heap.size, 0, none⟩) kept (2 * C)) (w.alloc (.cells ((zeroRow (2 * C)).map (Value.int .u8)).toArray 5)) := by
  obtain ⟨i, hi, hz, hs, hb⟩ := info_parts Tryd.info5
  have := run_make (P := Tryd.prog) w 22 5 i (.int .u8 0) Tryd.underlying22 hi hz .i64 .i64 (kept : Int) (2 * (C : Int)) (by omega) (by omega) (by rw [hb]; omega) (by omega)
  rw [this, hs]
  have e1 : (2 * (C : Int)).toNat = 2 * C := by omega
  have e2 : (kept : Int).toNat = kept := by omega
  rw [e1, e2, Nat.mul_one]
  have e3 : (Value.int .u8 0).cells = #[Value.int .u8 0] := rfl
  rw [e3, madeCells_u8]

/-- A world with new blocks, and with writes to those alone. -/
theorem Fr.alloc {S : List Nat} {a b : World} (h : Fr S a b) (o : Obj) : Fr S a (b.alloc o) :=
  h.trans ⟨rfl, rfl, rfl, by simp, fun k hk _ => Below.heap_alloc _ _ _ hk⟩

theorem grow_mid (B : Nat) (a0 a1 : Addr) (i rb g L C kept : Nat) (ys : List Int) (p : Nat) (eof : Bool) (fa : Option Addr) (zs : List Int) (w w1 : World) (hC : ys.length = C)
    (h : St w B a0 a1 i rb g L ys p eof fa zs) (hkL : kept = L) (hkC : kept = C) (hbig : 2 * C ≤ 524288)
    (hH : w1.heap[w.heap.size]? = some (.cells (splice ((zeroRow (2 * C)).map (Value.int .u8)) 0 (ys.map (Value.int .u8))).toArray 5 (0, 0)) ∧ (w.alloc (.cells ((zeroRow (2 * C)).map (Value.int .u8)).toArray 5)).drew.grownBy w1 (some w.heap.size)) :
    Mid w (w1.setCell ⟨i, 1, none⟩ (.slice (some ⟨w.heap.size, 0, none⟩) kept (2 * C))) B a0 a1 i rb g kept ys p eof fa zs w.heap.size kept (2 * C) (splice (zeroRow (2 * C)) 0 ys) := by
  obtain ⟨h1, h2⟩ := hH
  have hil := h.inp.lt
  have hrl := h.rd.lt
  have hgl := h.buf.lt
  have hlen : (splice (zeroRow (2 * C)) 0 ys).length = 2 * C := by rw [length_splice _ _ _ (by rw [zeroRow_length]; omega), zeroRow_length]
  have f0 : Fr [w.heap.size] w w1 := (((Fr.refl _ w).alloc _).draws 1).grown h2 (by simp)
  have f1 : Fr [i] w1 (w1.setCell ⟨i, 1, none⟩ (.slice (some ⟨w.heap.size, 0, none⟩) kept (2 * C))) := (Fr.refl _ _).grown (grownBy_setCell _ i 1 _) (by simp)
  have old : ∀ k, k < w.heap.size → w1.heap[k]? = w.heap[k]? := fun k hk => f0.block k hk (by simp; omega)
  have old2 : ∀ k, k < w.heap.size → k ≠ i → (w1.setCell ⟨i, 1, none⟩ (.slice (some ⟨w.heap.size, 0, none⟩) kept (2 * C))).heap[k]? = w.heap[k]? := fun k hk hki => (Below.heap_setCell _ _ _ _ hki).trans (old k hk)
  have fw : Fr [i, rb, g] w (w1.setCell ⟨i, 1, none⟩ (.slice (some ⟨w.heap.size, 0, none⟩) kept (2 * C))) :=
    ⟨f1.os.trans f0.os, f1.tape.trans f0.tape, f1.output.trans f0.output, Nat.le_trans f0.size f1.size, fun k hk hn => old2 k hk (fun e => hn (by simp [e]))⟩
  have dl : Apart fa w.heap.size := fun x hx => by have := h.dl x hx; omega
  refine ⟨⟨h.env.fr fw (by intro x hx; simp at hx; rcases hx with rfl | rfl | rfl; exact h.Bi; exact h.Br; exact h.Bg), ?_, h.rd.of_block (old2 rb hrl (Ne.symm h.ir)), ?_, ?_, h.Bi, h.Br, Nat.le_trans h.env.le (Nat.le_refl _), h.ir, by omega, by omega, h.di, h.dr, dl, (fun x hx => Nat.lt_of_lt_of_le (h.dl x hx) fw.size), by rw [hlen]; omega, by rw [hlen]; have := h.one; omega, by rw [hlen]; exact hbig, h.pl, h.zl⟩, hlen, by have := h.one; omega, ?_, fw, .inr (Nat.le_refl _)⟩
  · have := (h.inp.of_block (old i hil)).setBuf w.heap.size kept (2 * C)
    rw [hlen]
    exact this
  · show (w1.setCell _ _).heap[w.heap.size]? = _
    rw [Below.heap_setCell _ _ _ _ (by simp; omega), h1, splice_map]
  · exact h.dat.fr fw (by intro x hx; simp at hx; rcases hx with rfl | rfl | rfl; exact h.di; exact h.dr; exact h.dg)
  · subst hkC; simp [splice, hC, List.take_of_length_le (Nat.le_of_eq hC)]

theorem take_splice (ys : List Int) (kept : Nat) (xs : List Int) (h : kept ≤ ys.length) : (splice ys kept xs).take (kept + xs.length) = ys.take kept ++ xs := by
  have e : (ys.take kept).length = kept := by simp; omega
  simp only [splice]
  rw [List.take_append, e]
  have e2 : kept + xs.length - kept = xs.length := by omega
  rw [e2, List.take_of_length_le (by omega)]
  simp

theorem tail_done (B : Nat) (a0 a1 : Addr) (i rb g g' L' C' kept n q : Nat) (ys ys' : List Int) (p : Nat) (eof : Bool) (fa : Option Addr) (zs : List Int) (w wc w1 : World)
    (hM : St wc B a0 a1 i rb g' L' ys' p eof fa zs ∧ ys'.length = C' ∧ ys'.take kept = ys.take kept ∧ Fr [i, rb, g] w wc ∧ (g' = g ∨ w.heap.size ≤ g')) (hN : zs.length = n) (hq1 : q ≤ C' - kept) (hq2 : q ≤ n - p) (hroom : kept < C')
    (h3 : Rd w1 rb (.slice fa n n) (p + q)) (h4 : BufIs w1 g' (splice ys' kept ((zs.drop p).take q))) (h5 : Fr [rb, g'] wc.drew w1) :
    (C' - kept ≤ n - p → Done w (w1.setCell ⟨i, 1, none⟩ (.slice (some ⟨g', 0, none⟩) (kept + q) C')) B a0 a1 i rb g kept C' q ys p eof fa zs g' (splice ys' kept ((zs.drop p).take q))) ∧
    (n - p < C' - kept → Done w ((w1.setCell ⟨i, 1, none⟩ (.slice (some ⟨g', 0, none⟩) (kept + q) C')).setCell ⟨i, 2, none⟩ (.bool true)) B a0 a1 i rb g kept C' q ys p eof fa zs g' (splice ys' kept ((zs.drop p).take q))) ∧
    Env (w1.setCell ⟨i, 1, none⟩ (.slice (some ⟨g', 0, none⟩) (kept + q) C')) B a0 a1 ∧ Inp (w1.setCell ⟨i, 1, none⟩ (.slice (some ⟨g', 0, none⟩) (kept + q) C')) i rb g' (kept + q) C' eof := by
  obtain ⟨hst, hlen, hsame, hfr, hat⟩ := hM
  subst hN
  have hpl := hst.pl
  have hxl : ((zs.drop p).take q).length = q := by simp; omega
  have hlen2 : (splice ys' kept ((zs.drop p).take q)).length = C' := by rw [length_splice _ _ _ (by rw [hxl]; omega), hlen]
  have hheld : (splice ys' kept ((zs.drop p).take q)).take (kept + q) = ys.take kept ++ (zs.drop p).take q := by
    have := take_splice ys' kept ((zs.drop p).take q) (by omega)
    rw [hxl, hsame] at this
    exact this
  have fc : Fr [i, rb, g'] wc w1 := ((Fr.refl _ wc).draws 1).trans (h5.mono (by simp))
  have fS : ∀ x ∈ [i, rb, g'], B ≤ x := by intro x hx; simp at hx; rcases hx with rfl | rfl | rfl; exact hst.Bi; exact hst.Br; exact hst.Bg
  have fA : ∀ x ∈ [i, rb, g'], Apart fa x := by intro x hx; simp at hx; rcases hx with rfl | rfl | rfl; exact hst.di; exact hst.dr; exact hst.dg
  have iw1 : Inp w1 i rb g' L' C' eof := by
    have := hst.inp
    rw [hlen] at this
    exact this.of_block (h5.block i hst.inp.lt (by simp; exact ⟨hst.ir, hst.ig⟩))
  have main : ∀ (w' : World) (e' : Bool), Fr [i] w1 w' → Inp w' i rb g' (kept + q) C' e' → e' = (eof || decide (zs.length - p < C' - kept)) → Done w w' B a0 a1 i rb g kept C' q ys p eof fa zs g' (splice ys' kept ((zs.drop p).take q)) := by
    intro w' e' f1 hi he
    have f2 : Fr [i, rb, g'] wc w' := fc.trans (f1.mono (by simp))
    refine ⟨⟨hst.env.fr f2 fS, ?_, h3.of_block (f1.block rb h3.lt (by simp; exact Ne.symm hst.ir)), (f1.block g' h4.lt (by simp; exact Ne.symm hst.ig)).trans h4, hst.dat.fr f2 fA, hst.Bi, hst.Br, hst.Bg, hst.ir, hst.ig, hst.rg, hst.di, hst.dr, hst.dg, (fun x hx => Nat.lt_of_lt_of_le (hst.dl x hx) f2.size), by rw [hlen2]; omega, by rw [hlen2]; omega, by rw [hlen2, ← hlen]; exact hst.cap, by omega, hst.zl⟩, hlen2, hheld, ?_⟩
    · rw [hlen2, ← he]; exact hi
    · refine ⟨f2.os.trans hfr.os, f2.tape.trans hfr.tape, f2.output.trans hfr.output, Nat.le_trans hfr.size f2.size, fun k hk hn => ?_⟩
      refine (f2.block k (Nat.lt_of_lt_of_le hk hfr.size) ?_).trans (hfr.block k hk hn)
      simp only [List.mem_cons, List.not_mem_nil, or_false, not_or] at hn ⊢
      rcases hat with rfl | hat
      · exact hn
      · exact ⟨hn.1, hn.2.1, by omega⟩
  have f1 : Fr [i] w1 (w1.setCell ⟨i, 1, none⟩ (.slice (some ⟨g', 0, none⟩) (kept + q) C')) := (Fr.refl _ _).grown (grownBy_setCell _ i 1 _) (by simp)
  have i1 := iw1.setBuf g' (kept + q) C'
  refine ⟨fun h => main _ eof f1 i1 (by simp; omega), fun h => main _ true (f1.grown (grownBy_setCell _ i 2 _) (by simp)) (i1.setEof true) (by simp [h]), hst.env.fr (fc.trans (f1.mono (by simp))) fS, i1⟩

set_option maxHeartbeats 2000000 in
set_option maxRecDepth 100000 in
theorem hold_any (B : Nat) (a0 a1 : Addr) (i rb g L C n keep kept C' : Nat) (ys : List Int) (p : Nat) (eof : Bool) (fa : Option Addr) (zs : List Int) (w : World) (hC : ys.length = C) (hN : zs.length = n)
    (h : St w B a0 a1 i rb g L ys p eof fa zs) (hk : (keep = 0 ∧ kept = L) ∨ (keep = L ∧ kept = 0)) (hC' : C' = if kept = C then 2 * C else C) (hbig : 2 * C ≤ 524288) :
    Calls Tryd.prog 8 #[.pointer (some ⟨i, 0, none⟩), .int .i64 keep] w fun e w' => e = .returned (.tuple #[]) ∧ ∃ g' ys', Done w w' B a0 a1 i rb g kept C' (min (C' - kept) (n - p)) ys p eof fa zs g' ys' := by
  have c0 := h.inp.c0
  have c1 := h.inp.c1
  have f1 := h.inp.fz 1
  have hLC := h.Ll
  have hone := h.one
  have hpl := h.pl
  have hcp : ∀ nq ty, (Builtin.copy_ #[22, 22] ty #[.slice (some ⟨g, 0, none⟩) C C, .slice (if C = keep then some ⟨g, 0, none⟩ else some ⟨g, keep, none⟩) (L - keep) (C - keep)]).run Tryd.prog (w.drewN nq) = .ok (goInt kept) (w.drewN nq) := by
    intro nq ty
    rcases hk with ⟨rfl, rfl⟩ | ⟨rfl, rfl⟩
    · rw [if_neg (by omega)]
      subst hC
      exact copy_self (w.drewN nq) g kept ys h.buf h.Ll ty
    · rw [Nat.sub_self]
      exact copy_nought (w.drewN nq) _ _ _ _ _ ty
  rw [hC] at c1 hLC hone
  rw [hN] at hpl
  have HC : Hid (∀ nq ty, (Builtin.copy_ #[22, 22] ty #[.slice (some ⟨g, 0, none⟩) C C, .slice (if C = keep then some ⟨g, 0, none⟩ else some ⟨g, keep, none⟩) (L - keep) (C - keep)]).run Tryd.prog (w.drewN nq) = .ok (goInt kept) (w.drewN nq)) := hcp
  have hkL : keep ≤ L := by omega
  have hkC : kept ≤ C := by omega
  have g0 : (0 : Int) ≤ (keep : Int) := by omega
  have g1 : (0 : Int) ≤ (L : Int) := by omega
  have g2 : (L : Int) ≤ (C : Int) := by omega
  have g3 : (keep : Int) ≤ (L : Int) := by omega
  have g4 : (0 : Int) ≤ (C : Int) := by omega
  have HS : Hid (St w B a0 a1 i rb g L ys p eof fa zs ∧ ys.length = C ∧ zs.length = n ∧ ((keep = 0 ∧ kept = L) ∨ (keep = L ∧ kept = 0)) ∧ C' = if kept = C then 2 * C else C) := ⟨h, hC, hN, hk, hC'⟩
  clear hcp hC hN h hk hC'
  go_enter Tryd.func8, Tryd.ntmps8
  go_wp2
  go_region_held3 (fun w' => w'.cell? ⟨i, 1, none⟩ = some (.slice (some ⟨g, 0, none⟩) L C)) (go_keep)
    ((refine step_copy_same (by rfl) (.tmp 17) (.tmp 23) 22 22 (by rfl) (.slice (some ⟨g, 0, none⟩) C C) (.slice (if C = keep then some ⟨g, 0, none⟩ else some ⟨g, keep, none⟩) (L - keep) (C - keep)) (by rfl) (by rfl) kept (HC.out 1) ?_))
  clear HC
  generalize (if C = keep then some (⟨g, 0, none⟩ : Addr) else some ⟨g, keep, none⟩) = sa
  go_upto_if 31 with (fail)
  go_cut [5] (fun _ wc => ∃ g' L' ys', Mid w wc B a0 a1 i rb g kept ys p eof fa zs g' L' C' ys')
  case first =>
    by_cases hkC2 : kept = C
    · have g5 : ((kept : Int) == (C : Int)) = true := beq_iff_eq.2 (by omega)
      have hmk := make_two C kept hkC (by omega)
      have hsz : (Tryd.prog.info? 5).map (·.size) = some 1 := by kernel_rfl
      obtain ⟨W0, hW0⟩ : ∃ W0, W0 = w.alloc (.cells ((zeroRow (2 * C)).map (Value.int .u8)).toArray 5) := ⟨_, rfl⟩
      have HN : Hid (W0.drew.heap[w.heap.size]? = some (.cells ((zeroRow (2 * C)).map (Value.int .u8)).toArray 5 (0, 0)) ∧ (∀ j v, (ys.map (Value.int .u8))[j]? = some v → W0.drew.cell? ((⟨g, 0, none⟩ : Addr).add j) = some v) ∧ (ys.map (Value.int .u8)).length = Nat.min L kept ∧ 0 + (ys.map (Value.int .u8)).length ≤ ((zeroRow (2 * C)).map (Value.int .u8)).length ∧ ∀ v ∈ ys.map (Value.int .u8), v.oneCell' = true) := by
        obtain ⟨h, hC, hN, hk, hC'⟩ := HS.out
        have hgl := h.buf.lt
        subst hW0
        refine ⟨heap_alloc_new w _, fun j v hj => ?_, ?_, ?_, fun v hv => by obtain ⟨x, _, rfl⟩ := List.mem_map.1 hv; rfl⟩
        · rw [off_add]
          show (w.alloc _).cell? ⟨g, 0 + j, none⟩ = some v
          rw [World.cell?_alloc_past _ _ _ hgl]
          have hb' : w.heap[g]? = some (.cells (ys.map (Value.int .u8)).toArray 5 (0, 0)) := h.buf
          simpa [World.cell?, hb'] using hj
        · have : kept = L := by omega
          simp [this, hC]; omega
        · simp [zeroRow_length, hC]; omega
      have hil : i < w.heap.size := HS.out.1.inp.lt
      subst hW0
      clear hkC2
      go_wp2_with (first
        | (refine wpList_copy_rowW (by rfl) (.tmp 40) (.tmp 44) 22 22 (by rfl) 5 Tryd.underlying22 hsz ⟨w.heap.size, 0, none⟩ ⟨g, 0, none⟩ kept (2 * C) L C (by rfl) (by rfl) w.heap.size 0 ((zeroRow (2 * C)).map (Value.int .u8)) 5 rfl HN.out.1 (ys.map (Value.int .u8)) HN.out.2.2.1 HN.out.2.1 HN.out.2.2.2.1 HN.out.2.2.2.2 ?_; intro w1 hH; have z1 := hH.out.2.cell (a := ⟨i, 1, none⟩) ((World.cell?_alloc_past _ _ _ hil).trans c1) (by simp; omega); have zf := (hH.out.2.frozen_far ⟨i, 1, none⟩ (show i < (w.alloc _).heap.size by simp; omega) (by simp; omega)).trans ((World.frozen?_alloc_past _ _ _ hil).trans f1)))
      go_meet
      case rel =>
        obtain ⟨h, hC, hN, hk, hC'⟩ := HS.out
        have hkc : kept = C := by have := beq_iff_eq.1 g5; omega
        rw [if_pos hkc] at hC'
        rw [hC']
        exact ⟨_, _, _, grow_mid B a0 a1 i rb g L C kept ys p eof fa zs w w1 hC h (by omega) hkc hbig hH.out⟩
    · have g5 : ((kept : Int) == (C : Int)) = false := beq_eq_false_iff_ne.2 (by omega)
      go_wp2
      go_meet
      case rel =>
        obtain ⟨h, hC, hN, hk, hC'⟩ := HS.out
        rw [if_neg hkC2] at hC'
        exact ⟨g, L, ys, ⟨h.env.fr ((Fr.refl [] w).draws 1) (by simp), h.inp.of_block rfl, h.rd.of_block rfl, h.buf, h.dat.fr ((Fr.refl [] w).draws 1) (by simp), h.Bi, h.Br, h.Bg, h.ir, h.ig, h.rg, h.di, h.dr, h.dg, h.dl, h.Ll, h.one, h.cap, h.pl, h.zl⟩, by omega, by omega, rfl, (Fr.refl _ w).draws 1, .inl rfl⟩
  case rest =>
    obtain ⟨g', L', ys', hM⟩ := hcut
    obtain ⟨hst, hlen, hroom, hsame, hfr, hat⟩ := hM
    obtain ⟨_, hC, hN, _, hC'⟩ := HS.out
    have hcap : C' ≤ 524288 := by rw [← hlen]; exact hst.cap
    have k0 := hst.inp.c0
    have k1 := hst.inp.c1
    rw [hlen] at k1
    have kf1 := hst.inp.fz 1
    have HF : Hid (Calls Tryd.prog 16 #[.iface 33 (.pointer (some ⟨rb, 0, none⟩)), .slice (some ⟨g', kept, none⟩) (C' - kept) (C' - kept)] wc.drew fun e w' => ∃ err, e = .returned (.tuple #[.int .i64 (min (C' - kept) (n - p) : Nat), err]) ∧
      (C' - kept ≤ n - p → err = .nilIface) ∧ (n - p < C' - kept → err = .iface 63 (.pointer (some a0)) ∨ err = .iface 63 (.pointer (some a1))) ∧
      Rd w' rb (.slice fa n n) (p + min (C' - kept) (n - p)) ∧ BufIs w' g' (splice ys' kept ((zs.drop p).take (min (C' - kept) (n - p)))) ∧ Fr [rb, g'] wc.drew w') := by
      have hr := hst.rd
      rw [hN] at hr
      have hzl := hst.zl
      rw [hN] at hzl
      have he := hst.env
      have h2 := he.two
      have hBr := hst.Br
      have hBg := hst.Bg
      exact full_any rb fa n p g' kept (C' - kept) (C' - kept) zs ys' a0 a1 wc.drew hN (hr.of_block rfl) (hst.dat.fr ((Fr.refl [] wc).draws 1) (by simp)) hst.dr (by omega) hpl (by omega) (Nat.le_refl _) (by omega) hst.rg hst.buf (by rw [hlen]; omega) he.e0 he.e1 (by omega) (by omega) (by omega) (by omega)
    have t1 : (0 : Int) ≤ (kept : Int) := by omega
    have t2 : (kept : Int) ≤ (C' : Int) := by omega
    have t3 : ¬ C' = kept := by omega
    have t4 : (0 : Int) ≤ (C' : Int) := by omega
    have t5 : (L' : Int) ≤ (C' : Int) := by have := hst.Ll; omega
    have HM : Hid (St wc B a0 a1 i rb g' L' ys' p eof fa zs ∧ ys'.length = C' ∧ ys'.take kept = ys.take kept ∧ Fr [i, rb, g] w wc ∧ (g' = g ∨ w.heap.size ≤ g')) := ⟨hst, hlen, hsame, hfr, hat⟩
    have hir := hst.ir
    have hig := hst.ig
    have HN : Hid (zs.length = n) := hN
    clear hst hlen hsame hfr hat hC hN hC' c0 c1 f1
    go_wp2
    go_region_held3 (fun w' => w'.cell? ⟨i, 0, none⟩ = some (.iface 33 (.pointer (some ⟨rb, 0, none⟩))) ∧ w'.cell? ⟨i, 1, none⟩ = some (.slice (some ⟨g', 0, none⟩) L' C')) (go_keep)
      ((go_at_call 16; refine Calls.mono HF.out ?_; rintro e w1 ⟨err, rfl, hx1, hx2, hx3, hx4, hx5⟩; have y0 := hx5.cell (x := ⟨i, 0, none⟩) k0 (by simp; omega); have y1 := hx5.cell (x := ⟨i, 1, none⟩) k1 (by simp; omega)))
    have q1 : min (C' - kept) (n - p) ≤ C' - kept := Nat.min_le_left _ _
    have q2 : min (C' - kept) (n - p) ≤ n - p := Nat.min_le_right _ _
    have q3 : C' - kept ≤ n - p → min (C' - kept) (n - p) = C' - kept := fun h => Nat.min_eq_left h
    generalize hqd : min (C' - kept) (n - p) = q at *
    have HQ : Hid (min (C' - kept) (n - p) = q) := hqd
    clear hqd
    have s1 : (kept : Int) + (q : Int) ≤ (C' : Int) := by omega
    have yf : w1.frozen? ⟨i, 1, none⟩ = false := (World.frozen?_of_block (a := ⟨i, 1, none⟩) (hx5.block i (World.block_lt_of_cell? _ ⟨i, 0, none⟩ k0) (by simp; omega))).trans kf1
    obtain ⟨D1, D2, D3, D4⟩ := tail_done B a0 a1 i rb g g' L' C' kept n q ys ys' p eof fa zs w wc w1 HM.out HN.out (by omega) (by omega) (by omega) hx3 hx4 hx5
    have HD1 : Hid (C' - kept ≤ n - p → Done w (w1.setCell ⟨i, 1, none⟩ (.slice (some ⟨g', 0, none⟩) (kept + q) C')) B a0 a1 i rb g kept C' q ys p eof fa zs g' (splice ys' kept ((zs.drop p).take q))) := D1
    have HD2 : Hid (n - p < C' - kept → Done w ((w1.setCell ⟨i, 1, none⟩ (.slice (some ⟨g', 0, none⟩) (kept + q) C')).setCell ⟨i, 2, none⟩ (.bool true)) B a0 a1 i rb g kept C' q ys p eof fa zs g' (splice ys' kept ((zs.drop p).take q))) := D2
    have HE : Hid (Env (w1.setCell ⟨i, 1, none⟩ (.slice (some ⟨g', 0, none⟩) (kept + q) C')) B a0 a1) := D3
    have e0 := D3.e0
    have e1 := D3.e1
    have i2 := D4.c2
    have if2 := D4.fz 2
    clear D1 D2 D3 D4 HF HM HS hx3 hx4 hx5 k0 k1 kf1 q3 HN
    by_cases hcase : C' - kept ≤ n - p
    · have he := hx1 hcase
      subst he
      clear hx1 hx2
      have nn : ∀ w : World, (binOp .neq 38 .nilIface .nilIface).run Tryd.prog w = .ok (.bool false) w := fun w => by kernel_rfl
      go_wp2_with fail
      refine (is_nil _ _).mono ?_
      rintro e w' ⟨rfl, rfl⟩
      go_wp2_with fail
      refine (is_nil _ _).mono ?_
      rintro e w' ⟨rfl, rfl⟩
      go_wp2
      go_end0
      exact ⟨rfl, g', _, by rw [HQ.out]; exact HD1.out hcase⟩
    · have he := hx2 (by omega)
      clear hx1 hx2
      rcases he with he | he
      · subst he
        go_wp2_with fail
        refine (is_same _ _).mono ?_
        rintro e w' ⟨rfl, rfl⟩
        go_wp2
        go_end0
        exact ⟨rfl, g', _, by rw [HQ.out]; exact HD2.out (by omega)⟩
      · subst he
        go_wp2_with fail
        obtain ⟨cc0, tt0, r0⟩ := HE.out.r0
        obtain ⟨cc1, tt1, r1⟩ := HE.out.r1
        refine (is_other a1 a0 cc1 cc0 tt1 tt0 _ HE.out.ne r1 r0).mono ?_
        rintro e w' ⟨rfl, rfl⟩
        clear r0 r1
        go_wp2_with fail
        refine (is_same _ _).mono ?_
        rintro e w' ⟨rfl, rfl⟩
        go_wp2
        go_end0
        exact ⟨rfl, g', _, by rw [HQ.out]; exact HD2.out (by omega)⟩

end Go.Proofs.Qxb6618665aDoor
