/-
  Seat b6618722aF: the judge in memory ('J'); the functions that only read it.
-/
import Derived.Test.Qxb6618722aFmtBase
import Derived.Deep.RegionHeld3
import Derived.Deep.DeepCutAuto
import Derived.Deep.QuietTactic
namespace Go.Proofs.Qxb6618722aFmt
open Go.RowKit Go.Maps
set_option linter.unusedVariables false
set_option maxRecDepth 4000

/-- What the judge holds. -/
structure St where
  cnt : Nat → Nat
  ans : Nat → Int → Option (List Int)
  ext : List Int → Option Nat
  xv : List Int → Option (List Int)

def U32 (i : Int) : Prop := 0 ≤ i ∧ i < 4294967296

structure J (lo hi : Nat) (S : St) (w : World) : Prop where
  lohi : lo + 6 ≤ hi
  size : hi ≤ w.heap.size
  cA : w.cell? ⟨lo + 2, 39, none⟩ = some (.map (some lo))
  cX : w.cell? ⟨lo + 2, 45, none⟩ = some (.map (some (lo + 1)))
  am : ∃ n f, Mp Tryf.prog 62 w lo n f ∧ ∀ r : Nat, r < 3 → f (.int .u8 r) = some (.map (some (lo + 3 + r)))
  rm : ∀ r : Nat, r < 3 → ∃ f, Mp Tryf.prog 27 w (lo + 3 + r) (S.cnt r) f ∧ ∀ i : Int, U32 i → f (.int .u32 i) = (S.ans r i).map A
  xm : ∃ n f, Mp Tryf.prog 44 w (lo + 1) n f ∧ ∀ sg, Good sg → f (ky sg) = (S.ext sg).map fun b => .pointer (some ⟨b, 0, none⟩)
  ev : ∀ sg b, Good sg → S.ext sg = some b → lo + 6 ≤ b ∧ b < hi ∧ w.cell? ⟨b, 38, none⟩ = some (.bool (S.xv sg).isSome) ∧ w.rangeAt b 39 (ar ((S.xv sg).getD zs)) ∧ w.there b 38 33
  inj : ∀ sg sg' b, Good sg → Good sg' → S.ext sg = some b → S.ext sg' = some b → sg = sg'
  gA : ∀ r i d, S.ans r i = some d → Good d
  gX : ∀ sg d, S.xv sg = some d → Good d

theorem cell_eq {w w' : World} {b o : Nat} (h : w'.heap[b]? = w.heap[b]?) : w'.cell? ⟨b, o, none⟩ = w.cell? ⟨b, o, none⟩ := World.cell?_of_block h
theorem rangeAt_eq {w w' : World} {b o : Nat} {cs : List Value} (h : w'.heap[b]? = w.heap[b]?) (hr : w.rangeAt b o cs) : w'.rangeAt b o cs := fun j v hv => by rw [cell_eq h]; exact hr j v hv
theorem there_eq {w w' : World} {b o n : Nat} (h : w'.heap[b]? = w.heap[b]?) (hr : w.there b o n) : w'.there b o n := fun j hj => by
  rw [cell_eq h, World.frozen?_of_block (w := w) (w' := w') (a := ⟨b, o + j, none⟩) h]; exact hr j hj

theorem J.keep {lo hi : Nat} {S : St} {w w' : World} (h : J lo hi S w) (hs : w.heap.size ≤ w'.heap.size) (hb : ∀ b, lo ≤ b → b < hi → w'.heap[b]? = w.heap[b]?) : J lo hi S w' := by
  have hl := h.lohi
  refine ⟨hl, Nat.le_trans h.size hs, ?_, ?_, ?_, ?_, ?_, ?_, h.inj, h.gA, h.gX⟩
  · rw [cell_eq (hb _ (by omega) (by omega))]; exact h.cA
  · rw [cell_eq (hb _ (by omega) (by omega))]; exact h.cX
  · obtain ⟨n, f, h1, h2⟩ := h.am
    exact ⟨n, f, h1.of_block (hb _ (by omega) (by omega)), h2⟩
  · intro r hr
    obtain ⟨f, h1, h2⟩ := h.rm r hr
    exact ⟨f, h1.of_block (hb _ (by omega) (by omega)), h2⟩
  · obtain ⟨n, f, h1, h2⟩ := h.xm
    exact ⟨n, f, h1.of_block (hb _ (by omega) (by omega)), h2⟩
  · intro sg b hg hsg
    obtain ⟨h1, h2, h3, h4, h5⟩ := h.ev sg b hg hsg
    have e := hb b (by omega) h2
    exact ⟨h1, h2, by rw [cell_eq e]; exact h3, rangeAt_eq e h4, there_eq e h5⟩

theorem zero71 (w : World) : (zeroValue 71).run Tryf.prog w = .ok (.map none) w := by kernel_rfl
theorem zero93 (w : World) : (zeroValue 93).run Tryf.prog w = .ok (.pointer none) w := by kernel_rfl
theorem zero63 (w : World) : (zeroValue 63).run Tryf.prog w = .ok (A zs) w := by kernel_rfl

theorem wf62 {r : Nat} (h : r < 3) : (Lit.int .u8 (r : Int)).wf = true := wf8 (by omega)
theorem wf27 {i : Int} (h : U32 i) : (Lit.int .u32 i).wf = true := by
  obtain ⟨h1, h2⟩ := h
  simp [Lit.wf, IntKind.min, IntKind.max, IntKind.bits, IntKind.signed]; omega

theorem J.lookR {lo hi : Nat} {S : St} {w : World} (h : J lo hi S w) {r : Nat} (hr : r < 3) : (Instr.lookup 79 (.map (some lo)) (.int .u8 r) false).run Tryf.prog w = .ok (.map (some (lo + 3 + r))) w := by
  obtain ⟨n, f, h1, h2⟩ := h.am
  exact h1.look law62 Tryf.underlying79 (zero71 w) (keyOf_int_mk Tryf.underlying62 (wf62 hr)) (h2 r hr)

theorem getD_map_A (o : Option (List Int)) : (o.map A).getD (A zs) = A (o.getD zs) := by cases o <;> rfl

theorem J.lookI {lo hi : Nat} {S : St} {w : World} (h : J lo hi S w) {r : Nat} (hr : r < 3) {i : Int} (hi' : U32 i) :
    (Instr.lookup 71 (.map (some (lo + 3 + r))) (.int .u32 i) true).run Tryf.prog w = .ok (.tuple #[A ((S.ans r i).getD zs), .bool (S.ans r i).isSome]) w := by
  obtain ⟨f, h1, h2⟩ := h.rm r hr
  rw [h1.look_ok law27 Tryf.underlying71 (zero63 w) (keyOf_int_mk Tryf.underlying27 (wf27 hi')), h2 i hi', getD_map_A, Option.isSome_map]

theorem J.lenR {lo hi : Nat} {S : St} {w : World} (h : J lo hi S w) {r : Nat} (hr : r < 3) (ty : TypeId) : (Builtin.len_ #[71] ty #[.map (some (lo + 3 + r))]).run Tryf.prog w = .ok (.int .i64 (S.cnt r)) w := by
  obtain ⟨f, h1, h2⟩ := h.rm r hr
  exact h1.len Tryf.underlying71 ty

theorem J.lookX {lo hi : Nat} {S : St} {w : World} (h : J lo hi S w) {sg : List Int} (hg : Good sg) {b : Nat} (hb : S.ext sg = some b) :
    (Instr.lookup 85 (.map (some (lo + 1))) (A sg) false).run Tryf.prog w = .ok (.pointer (some ⟨b, 0, none⟩)) w := by
  obtain ⟨n, f, h1, h2⟩ := h.xm
  exact h1.look law44 Tryf.underlying85 (zero93 w) (keyOf_ky hg) (by rw [h2 sg hg, hb]; rfl)

set_option maxHeartbeats 800000 in
theorem count_any (lo hi : Nat) (S : St) (r : Nat) (w : World) (h : J lo hi S w) (hr : r < 3) :
    Calls Tryf.prog 12 #[.pointer (some ⟨lo + 2, 0, none⟩), .int .u8 r] w fun e w' => e = .returned (.int .i64 (S.cnt r)) ∧ w' = w := by
  have k1 := h.cA
  have k2 := h.lookR hr
  have k3 := h.lenR hr
  clear h
  go_enter Tryf.func12, Tryf.ntmps12
  go_wp2
  go_ret
  exact ⟨rfl, rfl⟩

end Go.Proofs.Qxb6618722aFmt
