/-
  Seat b6618722aF: ZZkeepAnswer.
-/
import Derived.Test.Qxb6618722aFmtKeepA
namespace Go.Proofs.Qxb6618722aFmt
open Go.RowKit Go.Maps Go.Extern.Stop Go.Stop Go.Extern
set_option linter.unusedVariables false
set_option maxRecDepth 4000

theorem MsgAt.of_range {w : World} {b r : Nat} {i : Int} {out : List Int} (h : w.rangeAt b 0 (c67 r i out)) : MsgAt w b r i out := by
  refine ⟨by simpa using h 0 _ rfl, by simpa using h 33 (.int .u32 i) (by rfl), fun j v hv => ?_⟩
  have := h (68 + j) v (by
    have e : c67 r i out = (.int .u8 r :: (c65 i ++ [.slice none 0 0])) ++ ar out := by simp [c67]
    rw [e, List.getElem?_append_right (by simp [c65])]
    simpa [c65] using hv)
  rw [← this]; congr 2; omega

theorem J.newer {lo hi : Nat} {S : St} {w w' : World} (h : J lo hi S w) (g : w.grownBy w' none) : J lo hi S w' := h.grow g (by simp)

theorem wpList_buildL {P : Program} {ops : Array Oper} {rest : List Oper} {op : Oper} {a : Act} {w : World} {Q : Exit → Act → World → Prop} (hgd : op.guard = none) (t : TypeId) (l : List (Nat × Operand)) (ho : op.op = .build t l.toArray) (vals : List (Nat × Value)) (hp : l.map (fun p => (p.1, a.eval p.2)) = vals)
    (cs : List Value) (hb : P.built t vals = some cs.toArray) (h : wpList P ops Q rest (a.put op.dst (.agg cs.toArray)) w) : wpList P ops Q (op :: rest) a w :=
  wpList_buildG hgd t l.toArray ho vals (by rw [← hp]; simp) cs hb h

set_option maxHeartbeats 2000000 in
theorem keep_any (F : Interp) (lo hi : Nat) (S : St) (s : Step) (w : World) (hF : F.answers w.tape) (h : J lo hi S w) (hs : s.Ok) (hr : s.role ≤ 3) (hx : s.role = 3 → S.ext s.sg ≠ none) (hcnt : ∀ r, S.cnt r ≤ 5000) :
    Calls Tryf.prog 9 #[.pointer (some ⟨lo + 2, 0, none⟩), .int .i64 s.line, A s.sg, .int .u8 s.role, .int .u32 s.idx, A s.out] w (Kept lo hi S (S.put s) (S.refuse s) w) := by
  have HJ : Hid (J lo hi S w) := h
  clear h
  have g1 := hs.sg
  have g2 := hs.out
  have HH : Hid (∀ w1 w2 w3 : World, New w w1 (ar s.sg) → New w1 w2 (ar s.out) → New w2 w3 (c67 s.role s.idx s.out) → J lo hi S w3 ∧ MsgAt w3 w2.heap.size s.role s.idx s.out ∧ hi ≤ w2.heap.size ∧ F.answers w3.tape ∧ Fr lo hi w w3) := fun w1 w2 w3 n1 n2 n3 => by
    have hz := HJ.out.size
    have e1 := n1.size
    have e2 := n2.size
    refine ⟨((HJ.out.newer n1.grown).newer n2.grown).newer n3.grown, MsgAt.of_range n3.range, by omega, ?_, ((Fr.of_new n1.grown).trans (Fr.of_new n2.grown)).trans (Fr.of_new n3.grown)⟩
    rw [n3.grown.tape, n2.grown.tape, n1.grown.tape]; exact hF
  go_enter Tryf.func9, Tryf.ntmps9
  go_wp2_with (first
    | (refine wpList_boxG rfl 26 (.tmp 2) rfl (ar s.sg) rfl ?_
       intro w1 n1)
    | (refine wpList_boxG rfl 26 (.tmp 5) rfl (ar s.out) rfl ?_
       intro w2 n2
       have x1 := rangeAt_grow n2.grown n1.range (by simp)
       have x2 := n2.range)
    | (refine wpList_load_mid rfl 26 (.tmp 8) rfl _ _ rfl (ar s.sg) _ x1 Tryf.underlying26 rfl (by rw [g1.ar]; exact size26) ?_)
    | (refine wpList_load_mid rfl 26 (.tmp 11) rfl _ _ rfl (ar s.out) _ x2 Tryf.underlying26 rfl (by rw [g2.ar]; exact size26) ?_)
    | (refine wpList_buildL rfl 54 [(0, .tmp 15)] rfl [(0, .agg (ar s.sg).toArray)] rfl (c54 s.sg) (built54 g1) ?_)
    | (refine wpList_buildL rfl 60 [(0, .tmp 14), (1, .tmp 16)] rfl [(0, .int .i64 s.line), (1, .agg (c54 s.sg).toArray)] rfl (c60 s.line s.sg) (built60 s.line g1) ?_)
    | (refine wpList_buildL rfl 65 [(1, .tmp 19)] rfl [(1, .int .u32 s.idx)] rfl (c65 s.idx) (built65 s.idx) ?_)
    | (refine wpList_buildL rfl 67 [(0, .tmp 18), (1, .tmp 20), (3, .tmp 21)] rfl [(0, .int .u8 s.role), (1, .agg (c65 s.idx).toArray), (3, .agg (ar s.out).toArray)] rfl (c67 s.role s.idx s.out) (built67 s.role s.idx g2) ?_)
    | (refine wpList_boxG rfl 67 _ rfl (c67 s.role s.idx s.out) rfl ?_
       intro w3 n3))
  obtain ⟨q1, q2, q3, q4, q5⟩ := HH.out w1 w2 w3 n1 n2 n3
  have HK : Hid (Calls Tryf.prog 21 #[.pointer (some ⟨lo + 2, 0, none⟩), .agg (c60 s.line s.sg).toArray, .pointer (some ⟨w2.heap.size, 0, none⟩)] w3 (Kept lo hi S (S.put s) (S.refuse s) w3)) := by
    by_cases e3 : s.role = 3
    · obtain ⟨b, hb⟩ := Option.ne_none_iff_exists'.1 (hx e3)
      have := keepX_any F lo hi S s.line s.sg s.idx s.out w2.heap.size b w3 q4 q1 g1 g2 (e3 ▸ q2) hb
      have e1 : S.put s = S.putX s.sg s.out := by simp [St.put, e3]
      have e2 : S.refuse s = refX S s.sg s.out := by simp only [St.refuse, refX, St.get, e3, if_true]; cases S.xv s.sg <;> rfl
      rw [e1, e2]; exact this
    · have := keepA_any F lo hi S s.line s.sg s.role s.idx s.out w2.heap.size w3 q4 q1 g2 (by omega) hs.idx q2 q3 (hcnt _)
      have e1 : S.put s = S.putA s.role s.idx s.out := by simp [St.put, e3]
      have e2 : S.refuse s = refA S s.role s.idx s.out := by simp only [St.refuse, refA, St.get, e3, if_false]; cases S.ans s.role s.idx <;> rfl
      rw [e1, e2]; exact this
  refine HK.out.mono ?_
  rintro e w4 ⟨hk, hf⟩
  have HK2 : Hid (Kept lo hi S (S.put s) (S.refuse s) w e w4) := ⟨hk, q5.trans hf⟩
  have he : ∃ v, e = .returned v := by
    rcases hk with ⟨_, ⟨p, rfl⟩, _⟩ | ⟨_, rfl, _⟩
    · exact ⟨_, rfl⟩
    · exact ⟨_, rfl⟩
  obtain ⟨v, rfl⟩ := he
  clear hk hf HK HH q1 q2 q3 q4 q5
  go_wp2
  go_ret
  exact HK2.out

end Go.Proofs.Qxb6618722aFmt
