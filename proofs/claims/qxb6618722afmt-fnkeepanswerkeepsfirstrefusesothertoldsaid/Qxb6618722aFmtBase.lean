/-
  Seat b6618722aF: maps by what stands at a key ('Mp'); arrays of 32 bytes ('A', 'Good'); a step ('Step').
-/
import Derived.Test.Qxb6618722aFmtRows
import Derived.WalkKit
import Derived.WalkSpells
import Derived.Deep.MidRow
import Derived.Maps.OwnSet
import Derived.DeepKeys4
import Derived.MapViews
namespace Go.Proofs.Qxb6618722aFmt
open Go.RowKit Go.Maps
set_option linter.unusedVariables false
set_option maxRecDepth 4000

/-! ### maps -/
/-- Every value reads as itself. -/
def tok (v : Value) : Option (DataW Value × List MemPlace) := some (.held v, [])

/-- Block b is a map of n entries; f: what stands at a key. -/
def Mp (P : Program) (k : TypeId) (w : World) (b n : Nat) (f : Lit → Option Value) : Prop :=
  ∃ D, w.ownsMap P k tok b n D ∧ Maps.size D = n ∧ ∀ kl, Maps.has D kl = (f kl).isSome ∧ ∀ v, f kl = some v → ∀ z, D.atKey kl z = .held v

def upd (f : Lit → Option Value) (k : Lit) (v : Value) : Lit → Option Value := fun x => if x.sameKey k then some v else f x
theorem upd_same {f : Lit → Option Value} {k : Lit} {v : Value} (h : WideAt.IsKeyLit k) : upd f k v k = some v := by simp [upd, WideAt.sameKey_self h]
theorem upd_other {f : Lit → Option Value} {k x : Lit} {v : Value} (h : x ≠ k) : upd f k v x = f x := by simp [upd, Maps.sameKey_ne h]

section
variable {P : Program} {k : TypeId} {w : World} {b n : Nat} {f : Lit → Option Value}

theorem Mp.made (w : World) (P : Program) (k : TypeId) : Mp P k (w.alloc (.map #[] 0)) w.heap.size 0 (fun _ => none) :=
  ⟨.map [], World.ownsMap_made w P k tok, rfl, fun kl => ⟨rfl, fun v h => by cases h⟩⟩

theorem Mp.lt (h : Mp P k w b n f) : b < w.heap.size := by
  obtain ⟨D, h1, _⟩ := h
  exact h1.lt

theorem Mp.of_block (h : Mp P k w b n f) {w' : World} (hb : w'.heap[b]? = w.heap[b]?) : Mp P k w' b n f := by
  obtain ⟨D, ⟨es, clock, h0, h1⟩, h2⟩ := h
  exact ⟨D, ⟨es, clock, hb.trans h0, h1⟩, h2⟩

theorem Mp.look (h : Mp P k w b n f) {t e : TypeId} (K : Keyed P k) (ht : P.underlying t = some (.map k e)) {z : Value} (hz : (zeroValue e).run P w = .ok z w) {key : Value} {kl : Lit} (hkey : keyOf P k key = some kl) {v : Value} (hv : f kl = some v) :
    (Instr.lookup t (.map (some b)) key false).run P w = .ok v w := by
  obtain ⟨D, h1, _, h3⟩ := h
  obtain ⟨v', ps, hrun, hR⟩ := h1.lookup K ht hz (zd := .held z) (zp := []) rfl hkey
  rw [(h3 kl).2 v hv] at hR
  simp [tok] at hR
  rw [hR.1] at hrun
  exact hrun

theorem Mp.look_ok (h : Mp P k w b n f) {t e : TypeId} (K : Keyed P k) (ht : P.underlying t = some (.map k e)) {z : Value} (hz : (zeroValue e).run P w = .ok z w) {key : Value} {kl : Lit} (hkey : keyOf P k key = some kl) :
    (Instr.lookup t (.map (some b)) key true).run P w = .ok (.tuple #[(f kl).getD z, .bool (f kl).isSome]) w := by
  obtain ⟨D, h1, _, h3⟩ := h
  obtain ⟨v', ps, hrun, hR⟩ := h1.look_ok K ht hz (zd := .held z) (zp := []) rfl hkey
  rw [(h3 kl).1] at hrun
  cases hf : f kl with
  | none =>
    rw [Maps.atKey_of_not_has (by rw [(h3 kl).1, hf]; rfl)] at hR
    simp [tok] at hR
    rw [hR.1, hf] at hrun
    exact hrun
  | some v =>
    rw [(h3 kl).2 v hf] at hR
    simp [tok] at hR
    rw [hR.1, hf] at hrun
    exact hrun

theorem Mp.len (h : Mp P k w b n f) {t e : TypeId} (ht : P.underlying t = some (.map k e)) (ty : TypeId) : (Builtin.len_ #[t] ty #[.map (some b)]).run P w = .ok (.int .i64 n) w := by
  obtain ⟨D, h1, h2, _⟩ := h
  rw [h1.len ht ty, h2]

theorem Mp.store (h : Mp P k w b n f) {t e : TypeId} (K : Keyed P k) (ht : P.underlying t = some (.map k e)) (hn : n < maxLen) {key val : Value} {kl : Lit} (hkey : keyOf P k key = some kl) :
    ∃ w', (Instr.mapUpdate t (.map (some b)) key val).run P w = .ok () w' ∧ Mp P k w' b (if (f kl).isSome then n else n + 1) (upd f kl val) ∧ w.grownBy w' (some b) ∧ w'.heap.size = w.heap.size := by
  obtain ⟨D, h1, h2, h3⟩ := h
  obtain ⟨w', hrun, hown, hturn⟩ := h1.store K ht hn hkey (val := val) (d := .held val) (ps := []) rfl
  have hsz : Maps.size (D.put kl (.held val)) = if (f kl).isSome then n else n + 1 := by
    rw [Maps.size_put (h1.tidy K), (h3 kl).1, h2]
  have hown' : w'.ownsMap P k tok b (if (f kl).isSome then n else n + 1) (D.put kl (.held val)) := by
    obtain ⟨es, clock, g1, g2, g3, g4⟩ := hown
    refine ⟨es, clock, g1, g2, ?_, g4⟩
    rw [← hsz, g4]
    simp [Maps.size, length_sorted]
  refine ⟨w', hrun, ⟨_, hown', hsz, fun x => ?_⟩, hturn.grown, ?_⟩
  · by_cases hx : x = kl
    · subst hx
      refine ⟨by rw [Maps.has_put_same h1.isMap (K.key hkey), upd_same (K.key hkey)]; rfl, fun v hv z => ?_⟩
      rw [upd_same (K.key hkey)] at hv
      cases hv
      exact Maps.atKey_put_same h1.isMap (K.key hkey) _ _
    · refine ⟨by rw [Maps.has_put_other hx, (h3 x).1, upd_other hx], fun v hv z => ?_⟩
      rw [upd_other hx] at hv
      rw [Maps.atKey_put_other hx]
      exact (h3 x).2 v hv z
  · obtain ⟨es, clock, es', clock', _, rfl⟩ := hturn
    simp [ChangeMaps.setBlock]
end

/-! ### arrays of 32 bytes -/
def ar (d : List Int) : List Value := d.map (Value.int .u8)
def A (d : List Int) : Value := .agg (ar d).toArray
structure Good (d : List Int) : Prop where
  len : d.length = 32
  byte : ∀ x ∈ d, 0 ≤ x ∧ x < 256
def zs : List Int := List.replicate 32 0
theorem good_zs : Good zs := ⟨by simp [zs], by intro x hx; simp [zs] at hx; omega⟩

theorem ar_len (d : List Int) : (ar d).length = d.length := by simp [ar]
theorem A_inj {d d' : List Int} (h : A d = A d') : d = d' := by
  simp [A, ar] at h
  have := congrArg (List.map (fun v : Value => match v with | .int _ n => n | _ => 0)) h
  simpa [List.map_map, Function.comp_def] using this
theorem A_cells (d : List Int) : (A d).cells = (ar d).toArray := rfl

theorem row26 : (26 : TypeId) < Tryf.prog.types.size := of_decide_eq_true (by kernel_rfl)
theorem row44 : (44 : TypeId) < Tryf.prog.types.size := of_decide_eq_true (by kernel_rfl)
theorem row63 : (63 : TypeId) < Tryf.prog.types.size := of_decide_eq_true (by kernel_rfl)
theorem laidOut : laidOutB Tryf.prog = true := by kernel_rfl
theorem cells26 : Tryf.prog.cellsOf 26 = 32 := by kernel_rfl
theorem cells44 : Tryf.prog.cellsOf 44 = 32 := by kernel_rfl
theorem cells63 : Tryf.prog.cellsOf 63 = 32 := by kernel_rfl
theorem cells5 : Tryf.prog.cellsOf 5 = 1 := by kernel_rfl
theorem kt26 : Tryf.prog.keyTypeAt 2 26 = true := by kernel_rfl
theorem kt44 : Tryf.prog.keyTypeAt 2 44 = true := by kernel_rfl
theorem kt63 : Tryf.prog.keyTypeAt 2 63 = true := by kernel_rfl
theorem kT26 : Tryf.prog.keyType 26 = true := by kernel_rfl
theorem kT44 : Tryf.prog.keyType 44 = true := by kernel_rfl
theorem kT63 : Tryf.prog.keyType 63 = true := by kernel_rfl
theorem tsz : Tryf.prog.types.size = 193 := by kernel_rfl
theorem law26 : Keyed Tryf.prog 26 := Keyed.of_law (deep_law_laid laidOut (m := 2) (by omega) row26 kt26 (by rw [Tryf.underlying26]))
theorem law44 : Keyed Tryf.prog 44 := Keyed.of_law (deep_law_laid laidOut (m := 2) (by omega) row44 kt44 (by rw [Tryf.underlying44]))
theorem law63 : Keyed Tryf.prog 63 := Keyed.of_law (deep_law_laid laidOut (m := 2) (by omega) row63 kt63 (by rw [Tryf.underlying63]))
theorem law62 : Keyed Tryf.prog 62 := int_keyed Tryf.underlying62
theorem law27 : Keyed Tryf.prog 27 := int_keyed Tryf.underlying27

theorem mapM_some {α β : Type} {f : α → Option β} {g : α → β} : ∀ {L : List α}, (∀ x ∈ L, f x = some (g x)) → L.mapM f = some (L.map g)
  | [], _ => rfl
  | x :: L, h => by
    simp [List.mapM_cons, h x (by simp), mapM_some (f := f) (g := g) (L := L) (fun z hz => h z (by simp [hz]))]

theorem wf8 {x : Int} (h : 0 ≤ x ∧ x < 256) : (Lit.int .u8 x).wf = true := by
  simp [Lit.wf, IntKind.min, IntKind.max, IntKind.bits, IntKind.signed]; omega

theorem flat_one (d : List Int) : ∀ n, n = d.length → ((List.range n).map fun i => [Lit.int .u8 (d.getD i 0)]).flatten = d.map (Lit.int .u8) := by
  intro n hn
  have e : ∀ L : List Nat, (L.map fun i => [Lit.int .u8 (d.getD i 0)]).flatten = L.map fun i => Lit.int .u8 (d.getD i 0) := fun L => by
    induction L with
    | nil => rfl
    | cons x L ih => rw [List.map_cons, List.flatten_cons, ih]; rfl
  rw [e]
  subst hn
  apply List.ext_getElem
  · simp
  · intro i h1 h2
    simp at h1
    simp [h1]

theorem keyLits_ok {P : Program} {t e : TypeId} (D : Nat) (hu : P.underlying t = some (.array 32 e)) (he : P.underlying e = some (.int .u8)) (hc : P.cellsOf t = 32) (hce : P.cellsOf e = 1) {d : List Int} (h : Good d) : P.keyLits (D + 2) t (ar d) = some (d.map (Lit.int .u8)) := by
  unfold Program.keyLits
  simp only [hu]
  rw [if_pos (by rw [ar_len, h.len, hc])]
  rw [mapM_some (g := fun i => [Lit.int .u8 (d.getD i 0)]) (fun i hi => ?_)]
  · simp only [Option.map_some]
    rw [flat_one d 32 h.len.symm]
  · have hi' : i < d.length := by rw [h.len]; exact List.mem_range.1 hi
    have e1 : ((ar d).drop (i * P.cellsOf e)).take (P.cellsOf e) = [.int .u8 d[i]] := by
      rw [hce, Nat.mul_one]
      rw [List.drop_eq_getElem_cons (by rw [ar_len]; exact hi')]
      simp [ar]
    rw [e1]
    simp [Program.keyLits, he, wf8 (h.byte _ (List.getElem_mem hi')), hi']

/-- What an array of bytes reads as, as a map's key. -/
def ky (d : List Int) : Lit := .string (keyBytes (d.map (Lit.int .u8)))

theorem keyOf_ok {t : TypeId} (hu : Tryf.prog.underlying t = some (.array 32 5)) (hc : Tryf.prog.cellsOf t = 32) (hk : Tryf.prog.keyType t = true) {d : List Int} (h : Good d) : keyOf Tryf.prog t (A d) = some (ky d) := by
  unfold keyOf
  simp only [hu]
  rw [if_pos (by rw [hk]; simp [A, Value.formed, hu, hc, ar_len, h.len])]
  rw [tsz, A_cells]
  rw [show (193 + 1 : Nat) = 192 + 2 from rfl, keyLits_ok 192 hu Tryf.underlying5 hc cells5 h]
  rfl
theorem keyOf_ky {d : List Int} (h : Good d) : keyOf Tryf.prog 44 (A d) = some (ky d) := keyOf_ok Tryf.underlying44 cells44 kT44 h
theorem ky_inj {d d' : List Int} (h : Good d) (h' : Good d') (e : ky d = ky d') : d = d' := A_inj (law44.inj (keyOf_ky h) (e ▸ keyOf_ky h'))

theorem equal_of {t : TypeId} (hu : Tryf.prog.underlying t = some (.array 32 5)) (hc : Tryf.prog.cellsOf t = 32) (hk : Tryf.prog.keyType t = true) (kt : Tryf.prog.keyTypeAt 2 t = true) (law : Keyed Tryf.prog t)
    {d d' : List Int} (h : Good d) (h' : Good d') (w : World) : (Op.equal t (A d) (A d')).run Tryf.prog w = .ok (decide (d = d')) w := by
  have hl := keyOf_ok hu hc hk h
  have hl' := keyOf_ok hu hc hk h'
  obtain ⟨r, hr, hiff⟩ := run_equal_deep w (m := 2) (by omega) kt (by rw [hu]) hl hl'
  rw [hr]
  congr 1
  by_cases e : d = d'
  · subst e
    simp [hiff.2 rfl]
  · have : r ≠ true := fun hr => e (A_inj (law.inj hl ((hiff.1 hr) ▸ hl')))
    simp [e, this]

theorem equal26 {d d' : List Int} (h : Good d) (h' : Good d') (w : World) : (Op.equal 26 (A d) (A d')).run Tryf.prog w = .ok (decide (d = d')) w := equal_of Tryf.underlying26 cells26 kT26 kt26 law26 h h' w
theorem equal63 {d d' : List Int} (h : Good d) (h' : Good d') (w : World) : (Op.equal 63 (A d) (A d')).run Tryf.prog w = .ok (decide (d = d')) w := equal_of Tryf.underlying63 cells63 kT63 kt63 law63 h h' w

theorem guard26 (op : BinOp) (x y : Operand) (d d' : List Int) (w : World) : (eqGuard op 26 x y (A d) (A d')).run Tryf.prog w = .ok () w := by
  have h : Tryf.prog.eqGuardType Tryf.prog.depth 26 = false := by kernel_rfl
  unfold eqGuard A
  by_cases e : (!(op matches .eql | .neq)) = true <;> simp [h]
theorem guard63 (op : BinOp) (x y : Operand) (d d' : List Int) (w : World) : (eqGuard op 63 x y (A d) (A d')).run Tryf.prog w = .ok () w := by
  have h : Tryf.prog.eqGuardType Tryf.prog.depth 63 = false := by kernel_rfl
  unfold eqGuard A
  by_cases e : (!(op matches .eql | .neq)) = true <;> simp [h]
theorem neq26 {d d' : List Int} (h : Good d) (h' : Good d') (w : World) : (binOp .neq 26 (A d) (A d')).run Tryf.prog w = .ok (.bool (!decide (d = d'))) w := by
  have e := equal26 h h' w
  unfold A at e ⊢
  simp [binOp, e]
theorem neq63 {d d' : List Int} (h : Good d) (h' : Good d') (w : World) : (binOp .neq 63 (A d) (A d')).run Tryf.prog w = .ok (.bool (!decide (d = d'))) w := by
  have e := equal63 h h' w
  unfold A at e ⊢
  simp [binOp, e]
theorem eql26 {d d' : List Int} (h : Good d) (h' : Good d') (w : World) : (binOp .eql 26 (A d) (A d')).run Tryf.prog w = .ok (.bool (decide (d = d'))) w := by
  have e := equal26 h h' w
  unfold A at e ⊢
  simp [binOp, e]

end Go.Proofs.Qxb6618722aFmt
