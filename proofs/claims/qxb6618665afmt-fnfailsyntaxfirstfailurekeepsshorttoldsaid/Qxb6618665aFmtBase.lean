/-
  The plain part of the proofs of seat b6618665a: no Go text in sight. White space, the first byte that is none; a slice of bytes in memory ('SB'); a Scanner in memory ('Sc').
-/
import Derived.WalkKit
import Derived.WalkSpells
import Derived.Deep.OwnRows
import Derived.Deep.AppendLies
namespace Go.Proofs.Qxb6618665aFmt
open Go.RowKit

/-! ### White space -/
def isSp (z : Int) : Bool := z == 32 || z == 9 || z == 10 || z == 13
def lead : List Int → Nat
  | [] => 0
  | z :: zs => if isSp z then lead zs + 1 else 0

theorem lead_le (zs : List Int) : lead zs ≤ zs.length := by
  induction zs with
  | nil => simp [lead]
  | cons z zs ih => simp only [lead, List.length_cons]; split <;> omega

/-- Every byte ahead of the stop is white space. -/
theorem lead_sp (zs : List Int) : ∀ i, i < lead zs → isSp (zs.getD i 0) = true := by
  induction zs with
  | nil => intro i h; simp [lead] at h
  | cons z zs ih =>
    intro i h
    by_cases hz : isSp z = true
    · simp only [lead, hz, if_true] at h
      cases i with
      | zero => simpa using hz
      | succ i => simpa using ih i (by omega)
    · simp [lead, hz] at h

/-- The byte at the stop, if any, is none. -/
theorem lead_stop (zs : List Int) (h : lead zs < zs.length) : isSp (zs.getD (lead zs) 0) = false := by
  induction zs with
  | nil => simp at h
  | cons z zs ih =>
    by_cases hz : isSp z = true
    · simp only [lead, hz, if_true, List.length_cons] at h ⊢
      simpa using ih (by omega)
    · simp only [lead, hz]
      simpa using hz

/-- A place at which all ahead are white space and which is the end or none: it is the stop. -/
theorem lead_unique (zs : List Int) (k : Nat) (hk : k ≤ zs.length) (h1 : ∀ i, i < k → isSp (zs.getD i 0) = true) (h2 : k < zs.length → isSp (zs.getD k 0) = false) : lead zs = k := by
  have a := lead_le zs
  rcases Nat.lt_trichotomy (lead zs) k with h | h | h
  · have := h1 _ h
    rw [lead_stop zs (by omega)] at this
    cases this
  · exact h
  · have := lead_sp zs k h
    rw [h2 (by omega)] at this
    cases this

/-- A cut's stop. -/
theorem lead_take (zs : List Int) (k : Nat) (hk : k ≤ zs.length) : lead (zs.take k) = if k < lead zs then k else lead zs := by
  have hl := lead_le zs
  have hlen : (zs.take k).length = k := by simp; omega
  split
  · next h =>
    refine lead_unique _ k (by omega) (fun i hi => ?_) (fun h' => by omega)
    have := lead_sp zs i (by omega)
    simpa [List.getD, List.getElem?_take, hi] using this
  · next h =>
    refine lead_unique _ (lead zs) (by omega) (fun i hi => ?_) (fun h' => ?_)
    · have := lead_sp zs i hi
      have hik : i < k := by omega
      simpa [List.getD, List.getElem?_take, hik] using this
    · have hik : lead zs < k := by omega
      have := lead_stop zs (by omega)
      simpa [List.getD, List.getElem?_take, hik] using this

/-! ### Memory -/
/-- The address a (of a slice of 'zs.length' bytes) leads to the bytes zs. -/
def SB (w : World) (a : Option Addr) (zs : List Int) : Prop :=
  zs = [] ∨ ∃ b off, a = some ⟨b, off, none⟩ ∧ ∀ i, i < zs.length → w.cell? ⟨b, off + i, none⟩ = some (.int .u8 (zs.getD i 0))

/-- Block b is no block of a's. -/
def Apart (a : Option Addr) (b : Nat) : Prop := ∀ x, a = some x → x.block ≠ b

theorem SB.grown {w w' : World} {a : Option Addr} {zs : List Int} {b : Nat} (h : SB w a zs) (hg : w.grownBy w' (some b)) (ha : Apart a b) : SB w' a zs := by
  rcases h with h | ⟨c, off, rfl, hc⟩
  · exact .inl h
  · exact .inr ⟨c, off, rfl, fun i hi => hg.cell (hc i hi) (by have := ha _ rfl; simpa using this)⟩

theorem SB.grown0 {w w' : World} {a : Option Addr} {zs : List Int} (h : SB w a zs) (hg : w.grownBy w' none) : SB w' a zs := by
  rcases h with h | ⟨c, off, rfl, hc⟩
  · exact .inl h
  · exact .inr ⟨c, off, rfl, fun i hi => hg.cell (hc i hi) (by simp)⟩

theorem SB.take {w : World} {a : Option Addr} {zs : List Int} (h : SB w a zs) (k : Nat) : SB w a (zs.take k) := by
  rcases h with h | ⟨c, off, rfl, hc⟩
  · exact .inl (by simp [h])
  · refine .inr ⟨c, off, rfl, fun i hi => ?_⟩
    simp at hi
    rw [hc i (by omega)]
    simp [List.getD, show i < k by omega]

/-- The address of a slice that a call has made (or nil). -/
def Made (w w' : World) (a : Option Addr) : Prop := a = none ∨ (a = some ⟨w.heap.size, 0, none⟩ ∧ w.heap.size < w'.heap.size)

theorem Made.apart {w w' : World} {a : Option Addr} (h : Made w w' a) {b : Nat} (hb : w'.heap.size ≤ b) : Apart a b := by
  intro x hx
  rcases h with rfl | ⟨rfl, h⟩
  · cases hx
  · cases hx
    simp only [ne_eq]
    omega

/-- A Scanner at the head of block b. -/
structure Sc (w : World) (b : Nat) (d : Value) (pos base : Int) (err : Value) (sh : Bool) (pa : Value) : Prop where
  c0 : w.cell? ⟨b, 0, none⟩ = some d
  c1 : w.cell? ⟨b, 1, none⟩ = some (.int .i64 pos)
  c2 : w.cell? ⟨b, 2, none⟩ = some (.int .i64 base)
  c3 : w.cell? ⟨b, 3, none⟩ = some err
  c4 : w.cell? ⟨b, 4, none⟩ = some (.bool sh)
  c5 : w.cell? ⟨b, 5, none⟩ = some pa
  fz : ∀ i, w.frozen? ⟨b, i, none⟩ = false

theorem Sc.lt {w : World} {b : Nat} {d : Value} {pos base : Int} {err : Value} {sh : Bool} {pa : Value} (h : Sc w b d pos base err sh pa) : b < w.heap.size := World.block_lt_of_cell? _ _ h.c0

theorem Sc.of_block {w w' : World} {b : Nat} {d : Value} {pos base : Int} {err : Value} {sh : Bool} {pa : Value} (h : Sc w b d pos base err sh pa) (e : w'.heap[b]? = w.heap[b]?) : Sc w' b d pos base err sh pa :=
  ⟨(World.cell?_of_block (a := ⟨b, 0, none⟩) e).trans h.c0, (World.cell?_of_block (a := ⟨b, 1, none⟩) e).trans h.c1, (World.cell?_of_block (a := ⟨b, 2, none⟩) e).trans h.c2, (World.cell?_of_block (a := ⟨b, 3, none⟩) e).trans h.c3, (World.cell?_of_block (a := ⟨b, 4, none⟩) e).trans h.c4, (World.cell?_of_block (a := ⟨b, 5, none⟩) e).trans h.c5, fun i => (World.frozen?_of_block (a := ⟨b, i, none⟩) e).trans (h.fz i)⟩

theorem Sc.grown {w w' : World} {b k : Nat} {d : Value} {pos base : Int} {err : Value} {sh : Bool} {pa : Value} (h : Sc w b d pos base err sh pa) (hg : w.grownBy w' (some k)) (hk : b ≠ k) : Sc w' b d pos base err sh pa :=
  h.of_block (hg.block b h.lt (by simpa using hk))

theorem Sc.grown0 {w w' : World} {b : Nat} {d : Value} {pos base : Int} {err : Value} {sh : Bool} {pa : Value} (h : Sc w b d pos base err sh pa) (hg : w.grownBy w' none) : Sc w' b d pos base err sh pa :=
  h.of_block (hg.block b h.lt (by simp))

/-! One cell turns. -/
theorem Sc.setD {w : World} {b : Nat} {d : Value} {pos base : Int} {err : Value} {sh : Bool} {pa : Value} (h : Sc w b d pos base err sh pa) (d' : Value) : Sc (w.setCell ⟨b, 0, none⟩ d') b d' pos base err sh pa :=
  ⟨World.cell?_setCell_same _ _ _ h.c0, (World.cell?_setCell_other _ _ _ _ (by simp)).trans h.c1, (World.cell?_setCell_other _ _ _ _ (by simp)).trans h.c2, (World.cell?_setCell_other _ _ _ _ (by simp)).trans h.c3, (World.cell?_setCell_other _ _ _ _ (by simp)).trans h.c4, (World.cell?_setCell_other _ _ _ _ (by simp)).trans h.c5, fun i => (World.frozen?_setCell _ _ _ _).trans (h.fz i)⟩
theorem Sc.setPos {w : World} {b : Nat} {d : Value} {pos base : Int} {err : Value} {sh : Bool} {pa : Value} (h : Sc w b d pos base err sh pa) (p : Int) : Sc (w.setCell ⟨b, 1, none⟩ (.int .i64 p)) b d p base err sh pa :=
  ⟨(World.cell?_setCell_other _ _ _ _ (by simp)).trans h.c0, World.cell?_setCell_same _ _ _ h.c1, (World.cell?_setCell_other _ _ _ _ (by simp)).trans h.c2, (World.cell?_setCell_other _ _ _ _ (by simp)).trans h.c3, (World.cell?_setCell_other _ _ _ _ (by simp)).trans h.c4, (World.cell?_setCell_other _ _ _ _ (by simp)).trans h.c5, fun i => (World.frozen?_setCell _ _ _ _).trans (h.fz i)⟩
theorem Sc.setBase {w : World} {b : Nat} {d : Value} {pos base : Int} {err : Value} {sh : Bool} {pa : Value} (h : Sc w b d pos base err sh pa) (b' : Int) : Sc (w.setCell ⟨b, 2, none⟩ (.int .i64 b')) b d pos b' err sh pa :=
  ⟨(World.cell?_setCell_other _ _ _ _ (by simp)).trans h.c0, (World.cell?_setCell_other _ _ _ _ (by simp)).trans h.c1, World.cell?_setCell_same _ _ _ h.c2, (World.cell?_setCell_other _ _ _ _ (by simp)).trans h.c3, (World.cell?_setCell_other _ _ _ _ (by simp)).trans h.c4, (World.cell?_setCell_other _ _ _ _ (by simp)).trans h.c5, fun i => (World.frozen?_setCell _ _ _ _).trans (h.fz i)⟩
theorem Sc.setErr {w : World} {b : Nat} {d : Value} {pos base : Int} {err : Value} {sh : Bool} {pa : Value} (h : Sc w b d pos base err sh pa) (e' : Value) : Sc (w.setCell ⟨b, 3, none⟩ e') b d pos base e' sh pa :=
  ⟨(World.cell?_setCell_other _ _ _ _ (by simp)).trans h.c0, (World.cell?_setCell_other _ _ _ _ (by simp)).trans h.c1, (World.cell?_setCell_other _ _ _ _ (by simp)).trans h.c2, World.cell?_setCell_same _ _ _ h.c3, (World.cell?_setCell_other _ _ _ _ (by simp)).trans h.c4, (World.cell?_setCell_other _ _ _ _ (by simp)).trans h.c5, fun i => (World.frozen?_setCell _ _ _ _).trans (h.fz i)⟩
theorem Sc.setSh {w : World} {b : Nat} {d : Value} {pos base : Int} {err : Value} {sh : Bool} {pa : Value} (h : Sc w b d pos base err sh pa) (s' : Bool) : Sc (w.setCell ⟨b, 4, none⟩ (.bool s')) b d pos base err s' pa :=
  ⟨(World.cell?_setCell_other _ _ _ _ (by simp)).trans h.c0, (World.cell?_setCell_other _ _ _ _ (by simp)).trans h.c1, (World.cell?_setCell_other _ _ _ _ (by simp)).trans h.c2, (World.cell?_setCell_other _ _ _ _ (by simp)).trans h.c3, World.cell?_setCell_same _ _ _ h.c4, (World.cell?_setCell_other _ _ _ _ (by simp)).trans h.c5, fun i => (World.frozen?_setCell _ _ _ _).trans (h.fz i)⟩
theorem Sc.setPa {w : World} {b : Nat} {d : Value} {pos base : Int} {err : Value} {sh : Bool} {pa : Value} (h : Sc w b d pos base err sh pa) (p' : Value) : Sc (w.setCell ⟨b, 5, none⟩ p') b d pos base err sh p' :=
  ⟨(World.cell?_setCell_other _ _ _ _ (by simp)).trans h.c0, (World.cell?_setCell_other _ _ _ _ (by simp)).trans h.c1, (World.cell?_setCell_other _ _ _ _ (by simp)).trans h.c2, (World.cell?_setCell_other _ _ _ _ (by simp)).trans h.c3, (World.cell?_setCell_other _ _ _ _ (by simp)).trans h.c4, World.cell?_setCell_same _ _ _ h.c5, fun i => (World.frozen?_setCell _ _ _ _).trans (h.fz i)⟩

theorem grownBy_setCell (w : World) (b o : Nat) (v : Value) : w.grownBy (w.setCell ⟨b, o, none⟩ v) (some b) :=
  ⟨rfl, rfl, rfl, by simp [World.setCell], fun k _ hk => Below.heap_setCell _ _ _ _ (by simpa using hk)⟩

theorem grownBy_drew {w w' : World} {row : Option Nat} (h : w.grownBy w' row) : w.grownBy w'.drew row := ⟨h.os, h.tape, h.output, h.size, h.block⟩

theorem Sc_new (w : World) (t : TypeId) : Sc (w.alloc (.cells #[.slice none 0 0, .int .i64 0, .int .i64 0, .nilIface, .bool false, .slice none 0 0] t)) w.heap.size (.slice none 0 0) 0 0 .nilIface false (.slice none 0 0) := by
  refine ⟨?_, ?_, ?_, ?_, ?_, ?_, fun i => ?_⟩
  all_goals first | (rw [World.cell?_alloc_at _ _ _ _ rfl]; rfl) | exact World.frozen?_alloc_at _ _ _ _ rfl

/-- A block of the call's own was made behind w: 'Below' w's size. -/
theorem below_of {B : Nat} {a w w' : World} {row : Option Nat} (h : Below B a w) (hB : B ≤ w.heap.size) (hg : w.grownBy w' row) (hr : ∀ k, row = some k → B ≤ k) : Below B a w' := h.grown hg hB hr

end Go.Proofs.Qxb6618665aFmt
