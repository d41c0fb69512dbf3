/-
  Seat b6618722aF: the argument, opened: a slice of steps that reads as data is 'Sl'.
-/
import Derived.Test.Qxb6618722aFmtFnsD
import Derived.Deep.Slices
import Derived.DataReads
import Derived.ChangeOld
namespace Go.Proofs.Qxb6618722aFmt
open Go.RowKit Go.Maps Go.WideShapes Go.ChangeShapes
set_option linter.unusedVariables false
set_option maxRecDepth 4000

theorem mapM_each {α β : Type} {f : α → Option β} : ∀ {L : List α} {ys : List β}, L.mapM f = some ys → ∀ x ∈ L, ∃ y, f x = some y
  | [], _, _, x, hx => by cases hx
  | z :: L, ys, h, x, hx => by
    rw [List.mapM_cons] at h
    simp only [bind, Option.bind_eq_some_iff, pure] at h
    obtain ⟨y, h1, ys', h2, _⟩ := h
    rcases List.mem_cons.1 hx with rfl | hx
    · exact ⟨y, h1⟩
    · exact mapM_each h2 x hx

theorem lits_wf {P : Program} {D : Nat} {t : TypeId} {q : IntKind} {n : Int} {l : List Lit} (hu : P.underlying t = some (.int q)) (h : P.keyLits D t [.int q n] = some l) : (Lit.int q n).wf = true := by
  cases D with
  | zero => simp [Program.keyLits] at h
  | succ D =>
    simp [Program.keyLits, hu] at h
    exact h.1

theorem wf_u8 {x : Int} (h : (Lit.int .u8 x).wf = true) : 0 ≤ x ∧ x < 256 := by
  simp [Lit.wf, IntKind.min, IntKind.max, IntKind.bits, IntKind.signed] at h; omega
theorem wf_u32 {x : Int} (h : (Lit.int .u32 x).wf = true) : U32 x := by
  unfold U32
  simp [Lit.wf, IntKind.min, IntKind.max, IntKind.bits, IntKind.signed] at h; omega

def num' : Value → Int
  | .int _ n => n
  | _ => 0

theorem arr_of_lits {D : Nat} {xs : List Value} {l : List Lit} (h : Tryf.prog.keyLits D 26 xs = some l) : ∃ d, Good d ∧ xs = ar d := by
  cases D with
  | zero => simp [Program.keyLits] at h
  | succ D =>
    unfold Program.keyLits at h
    simp only [Tryf.underlying26] at h
    split at h
    · rename_i hl
      rw [cells26] at hl
      simp only [Option.map_eq_some_iff] at h
      obtain ⟨ys, hy, _⟩ := h
      have hall : ∀ i (hi : i < xs.length), ∃ n, xs[i] = .int .u8 n ∧ 0 ≤ n ∧ n < 256 := fun i hi => by
        obtain ⟨y, hy'⟩ := mapM_each hy i (List.mem_range.2 (by omega))
        rw [cells5, Nat.mul_one, List.drop_eq_getElem_cons hi] at hy'
        simp only [List.take_succ_cons, List.take_zero] at hy'
        obtain ⟨n, e1, e2⟩ := keyLits_int' Tryf.underlying5 hy'
        simp at e1
        rw [e1] at hy'
        exact ⟨n, e1, wf_u8 (lits_wf Tryf.underlying5 hy')⟩
      refine ⟨xs.map num', ⟨by simp [hl], ?_⟩, ?_⟩
      · intro x hx
        obtain ⟨v, hv, rfl⟩ := List.mem_map.1 hx
        obtain ⟨i, hi, rfl⟩ := List.getElem_of_mem hv
        obtain ⟨n, e, hn⟩ := hall i hi
        rw [e]; exact hn
      · apply List.ext_getElem
        · simp [ar]
        · intro i h1 h2
          obtain ⟨n, e, hn⟩ := hall i h1
          simp [ar, e, num']
    · cases h

theorem fields29 : ∃ fs : Array Field, Tryf.prog.underlying 29 = some (.struct fs) ∧ fs.toList.map (fun f => (f.type, f.offset)) = [(3, 0), (26, 1), (5, 33), (27, 34), (26, 35)] := ⟨_, Tryf.underlying29, rfl⟩
theorem cells3 : Tryf.prog.cellsOf 3 = 1 := by kernel_rfl
theorem cells27 : Tryf.prog.cellsOf 27 = 1 := by kernel_rfl

theorem step_of_lits {D : Nat} {cs : List Value} {l : List Lit} (h : Tryf.prog.keyLits D 29 cs = some l) : ∃ s : Step, s.Ok ∧ cs = s.cells := by
  cases D with
  | zero => simp [Program.keyLits] at h
  | succ D =>
    obtain ⟨fs, hu, hf⟩ := fields29
    unfold Program.keyLits at h
    simp only [hu] at h
    split at h
    · rename_i hl
      have hlen : cs.length = 67 := by rw [hl.1, cells29]
      simp only [Option.map_eq_some_iff] at h
      obtain ⟨ys, hy, _⟩ := h
      have each : ∀ t off, (t, off) ∈ fs.toList.map (fun f => (f.type, f.offset)) → ∃ y, Tryf.prog.keyLits D t ((cs.drop off).take (Tryf.prog.cellsOf t)) = some y := fun t off hm => by
        obtain ⟨f, hfm, e⟩ := List.mem_map.1 hm
        simp only [Prod.mk.injEq] at e
        obtain ⟨y, hy'⟩ := mapM_each hy f hfm
        rw [e.1, e.2] at hy'
        exact ⟨y, hy'⟩
      rw [hf] at each
      obtain ⟨y0, h0⟩ := each 3 0 (by simp)
      obtain ⟨y1, h1⟩ := each 26 1 (by simp)
      obtain ⟨y2, h2⟩ := each 5 33 (by simp)
      obtain ⟨y3, h3⟩ := each 27 34 (by simp)
      obtain ⟨y4, h4⟩ := each 26 35 (by simp)
      rw [cells3] at h0
      rw [cells26] at h1 h4
      rw [cells5] at h2
      rw [cells27] at h3
      obtain ⟨n0, e0, _⟩ := keyLits_int' Tryf.underlying3 h0
      obtain ⟨d1, g1, e1⟩ := arr_of_lits h1
      obtain ⟨n2, e2, _⟩ := keyLits_int' Tryf.underlying5 h2
      obtain ⟨n3, e3, _⟩ := keyLits_int' Tryf.underlying27 h3
      obtain ⟨d4, g4, e4⟩ := arr_of_lits h4
      rw [e2] at h2
      rw [e3] at h3
      have w2 := wf_u8 (lits_wf Tryf.underlying5 h2)
      have w3 := wf_u32 (lits_wf Tryf.underlying27 h3)
      refine ⟨⟨n0, d1, n2.toNat, n3, d4⟩, ⟨g1, g4, w3⟩, ?_⟩
      have s1 : cs = (cs.drop 0).take 1 ++ ((cs.drop 1).take 32 ++ ((cs.drop 33).take 1 ++ ((cs.drop 34).take 1 ++ (cs.drop 35).take 32))) := by
        rw [List.take_of_length_le (l := cs.drop 35) (by simp; omega)]
        have a1 : (cs.drop 34).take 1 ++ cs.drop 35 = cs.drop 34 := by
          have := List.take_append_drop 1 (cs.drop 34)
          rwa [List.drop_drop] at this
        have a2 : (cs.drop 33).take 1 ++ cs.drop 34 = cs.drop 33 := by
          have := List.take_append_drop 1 (cs.drop 33)
          rwa [List.drop_drop] at this
        have a3 : (cs.drop 1).take 32 ++ cs.drop 33 = cs.drop 1 := by
          have := List.take_append_drop 32 (cs.drop 1)
          rwa [List.drop_drop] at this
        rw [a1, a2, a3, List.drop_zero]
        exact (List.take_append_drop 1 cs).symm
      rw [s1, e0, e1, e2, e3, e4]
      simp [Step.cells, Int.toNat_of_nonneg w2.1]
    · cases h

theorem kt29 : Tryf.prog.keyTypeAt 4 29 = true := by kernel_rfl

theorem list_of {α : Type} {n : Nat} {p : Nat → α → Prop} (h : ∀ i, i < n → ∃ x, p i x) : ∃ l : List α, l.length = n ∧ ∀ i x, l[i]? = some x → p i x := by
  induction n with
  | zero => exact ⟨[], rfl, fun i x hx => by simp at hx⟩
  | succ n ih =>
    obtain ⟨l, h1, h2⟩ := ih (fun i hi => h i (by omega))
    obtain ⟨x, hx⟩ := h n (by omega)
    refine ⟨l ++ [x], by simp [h1], fun i y hy => ?_⟩
    by_cases hi : i < l.length
    · rw [List.getElem?_append_left hi] at hy; exact h2 i y hy
    · have hi2 : i = l.length := by
        have := (List.getElem?_eq_some_iff.1 hy).1
        simp at this; omega
      subst hi2
      simp at hy
      subst hy
      rw [h1]; exact hx

/-- The argument. -/
theorem open_steps {H : Type} {enc : TypeId × Value → H} {W : World} {base : Nat} {sp : Nat → Bool} {held : Bool} {a : Option Addr} {len cap : Nat} {d : DataW H} {ps : List MemPlace}
    (h : DataW.Trod enc Tryf.prog W base sp held 22 (.slice a len cap) d ps) : ∃ b o st, Sl W a len b o st ∧ (0 < len → b < W.heap.size) := by
  obtain ⟨fuel, hf⟩ := h
  rcases Go.Deep.open_slice Tryf.underlying22 hf with ⟨hcs, _⟩ | ⟨ad, l, c, m, n, Dd, Pl, hcs, _, hl, _, hm, _, hall⟩
  · simp [Value.cells] at hcs
    obtain ⟨rfl, rfl, rfl⟩ := hcs
    exact ⟨0, 0, [], ⟨rfl, fun h => by omega, fun k s hs => by simp at hs, fun s hs => by cases hs⟩, fun h => by omega⟩
  · simp [Value.cells] at hcs
    obtain ⟨rfl, rfl, rfl⟩ := hcs
    have hlm : len ≤ m := by rw [hm]; split <;> omega
    by_cases h0 : len = 0
    · subst h0
      exact ⟨0, 0, [], ⟨rfl, fun h => by omega, fun k s hs => by simp at hs, fun s hs => by cases hs⟩, fun h => by omega⟩
    · have ex : ∀ i, i < len → ∃ s : Step, s.Ok ∧ W.cells? base (ad.add (i * 67)) 67 = some s.cells := fun i hi => by
        obtain ⟨cs', h1, h2⟩ := hall i (by omega)
        rw [cells29] at h1
        obtain ⟨k1, _⟩ := keyLits_of_trod 4 29 kt29 _ _ _ h2
        obtain ⟨s, hs, e⟩ := step_of_lits k1
        exact ⟨s, hs, by rw [← e]; exact h1⟩
      obtain ⟨b, off, spot⟩ := ad
      have hsp : spot = none := by
        obtain ⟨s, hs, hc⟩ := ex 0 (by omega)
        have := (World.cells?_some hc).2.2 0 (by omega)
        have h1 : s.cells[0]? = some (.int .i64 s.line) := rfl
        rw [h1] at this
        have h2 := World.cell?_spot this
        simpa [Addr.add] using h2
      subst hsp
      obtain ⟨st, hst1, hst2⟩ := list_of ex
      refine ⟨b, off, st, ⟨hst1, fun _ => rfl, fun k s hs => ?_, fun s hs => ?_⟩, fun _ => ?_⟩
      · obtain ⟨h1, h2⟩ := hst2 k s hs
        intro j v hv
        have hj : j < s.cells.length := (List.getElem?_eq_some_iff.1 hv).1
        rw [Step.len h1] at hj
        have := (World.cells?_some h2).2.2 j hj
        rw [add_plain, add_plain, hv] at this
        rw [← this]
        congr 2
        omega
      · obtain ⟨k, hk, rfl⟩ := List.getElem_of_mem hs
        exact (hst2 k _ (List.getElem?_eq_getElem hk)).1
      · obtain ⟨s, hs, hc⟩ := ex 0 (by omega)
        exact World.cells?_block hc (by omega)

end Go.Proofs.Qxb6618722aFmt
