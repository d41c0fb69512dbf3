/-
  io.ReadAtLeast, io.ReadFull over a bytes.Reader.
-/
import Derived.Test.Qxb6618665aDoorRead
import Derived.Test.Qxb6618665aDoorIs
namespace Go.Proofs.Qxb6618665aDoor
open Go.RowKit
set_option linter.unusedVariables false

theorem nilAheadRead (a : Addr) (w : World) : (nilAhead 207 33 (.pointer (some a)) "Read").run Tryd.prog w = .ok (some false) w := by kernel_rfl
theorem methodRead (a : Addr) (w : World) : (method 207 33 (.pointer (some a)) "Read").run Tryd.prog w = .ok (37, .pointer (some a)) w := by kernel_rfl
theorem eqlNilNil (w : World) : (binOp .eql 38 .nilIface .nilIface).run Tryd.prog w = .ok (.bool true) w := by kernel_rfl
theorem eqlErrNil (a : Addr) (w : World) : (binOp .eql 38 (.iface 63 (.pointer (some a))) .nilIface).run Tryd.prog w = .ok (.bool false) w := by kernel_rfl

set_option maxHeartbeats 1000000 in
theorem atLeast_end (b : Nat) (fa : Option Addr) (n fc p : Nat) (g o m c : Nat) (a0 : Addr) (w : World) (h : Rd w b (.slice fa n fc) p) (hp : n ≤ p) (hm : 0 < m) (hm2 : m ≤ 1048576) (hmc : m ≤ c) (he : w.cell? ⟨0, 0, none⟩ = some (.iface 63 (.pointer (some a0)))) :
    Calls Tryd.prog 18 #[.iface 33 (.pointer (some ⟨b, 0, none⟩)), .slice (some ⟨g, o, none⟩) m c, .int .i64 m] w fun e w' => e = .returned (.tuple #[.int .i64 0, .iface 63 (.pointer (some a0))]) ∧ ∃ k, w' = w.drewN k := by
  have k1 := nilAheadRead
  have k2 := methodRead
  have k3 := eqlNilNil
  have k4 := eqlErrNil
  have m0 : (0 : Int) < (m : Int) := by omega
  go_enter Tryd.func18, Tryd.ntmps18
  go_wp2
  refine wp_loop_rounds 2 ?_
  rw [rounds_succ]
  go_wp2
  have hc0 : ¬ c = 0 := by omega
  have hmc' : (m : Int) ≤ (c : Int) := by omega
  go_region_held3 (fun w' => w'.cell? ⟨0, 0, none⟩ = some (.iface 63 (.pointer (some a0)))) (go_keep)
    ((go_at_call 37; refine (read_end b fa n fc p _ _ w.drew (h.of_block rfl) hp he).mono ?_; rintro e w' ⟨rfl, nn, rfl⟩))
  go_wp2
  rw [rounds_succ]
  go_wp2
  go_ret2
  exact ⟨rfl, _, rfl⟩

/-- There are bytes for the whole room. -/
theorem atLeast_full (b fb fo n fc p g o m c : Nat) (cur cs : List Value) (w : World) (h : Rd w b (.slice (some ⟨fb, fo, none⟩) n fc) p) (hn : n ≤ 1048576) (hnc : n ≤ fc) (hfc : fc ≤ 1048576) (hp : p + m ≤ n) (hm : 0 < m) (hm2 : m ≤ 1048576) (hmc : m ≤ c)
    (hgb : g ≠ b) (hg : w.heap[g]? = some (.cells cur.toArray 5 (0, 0))) (hcs : cs.length = m) (hsrc : ∀ j v, cs[j]? = some v → w.cell? ⟨fb, fo + p + j, none⟩ = some v) (hfb : fb ≠ b) (hfit : o + cs.length ≤ cur.length) (h1 : ∀ v ∈ cs, v.oneCell' = true) :
    Calls Tryd.prog 18 #[.iface 33 (.pointer (some ⟨b, 0, none⟩)), .slice (some ⟨g, o, none⟩) m c, .int .i64 m] w fun e w' => e = .returned (.tuple #[.int .i64 m, .nilIface]) ∧
      Rd w' b (.slice (some ⟨fb, fo, none⟩) n fc) (p + m) ∧ w'.heap[g]? = some (.cells (splice cur o cs).toArray 5 (0, 0)) ∧ Fr [b, g] w w' := by
  have k1 := nilAheadRead
  have k2 := methodRead
  have k3 := eqlNilNil
  have m0 : (0 : Int) < (m : Int) := by omega
  have hc0 : ¬ c = 0 := by omega
  have hmc' : (m : Int) ≤ (c : Int) := by omega
  have HC := read_some b fb fo n fc p g o m c m cur cs w.drew (h.of_block rfl) hn hnc hfc (by omega) hm hm2 hgb hg hcs (by omega) hsrc hfb hfit h1
  have HH : Hid _ := HC
  clear HC h hg hcs hsrc hfit h1
  go_enter Tryd.func18, Tryd.ntmps18
  go_wp2
  refine wp_loop_rounds 2 ?_
  rw [rounds_succ]
  go_wp2
  go_region_with (go_at_call 37; refine Calls.mono HH.out ?_; rintro e w' ⟨rfl, hq1, hq2, hq3⟩)
  go_wp2
  rw [rounds_succ]
  go_wp2
  go_ret2
  exact ⟨rfl, hq1, hq2, ((Fr.refl _ w).draws 1).trans hq3⟩

set_option maxHeartbeats 1600000 in
/-- There are some bytes, but too few. -/
theorem atLeast_short (b fb fo n fc p g o m c q : Nat) (cur cs : List Value) (a0 a1 : Addr) (w : World) (h : Rd w b (.slice (some ⟨fb, fo, none⟩) n fc) p) (hn : n ≤ 1048576) (hnc : n ≤ fc) (hfc : fc ≤ 1048576) (hp : p < n) (hq : q = n - p) (hqm : q < m) (hm2 : m ≤ 1048576) (hmc : m ≤ c) (hcc : c ≤ 1048576)
    (hgb : g ≠ b) (hg : w.heap[g]? = some (.cells cur.toArray 5 (0, 0))) (hcs : cs.length = q) (hsrc : ∀ j v, cs[j]? = some v → w.cell? ⟨fb, fo + p + j, none⟩ = some v) (hfb : fb ≠ b) (hfit : o + cs.length ≤ cur.length) (h1 : ∀ v ∈ cs, v.oneCell' = true)
    (he0 : w.cell? ⟨0, 0, none⟩ = some (.iface 63 (.pointer (some a0)))) (he1 : w.cell? ⟨1, 0, none⟩ = some (.iface 63 (.pointer (some a1)))) (hb0 : b ≠ 0) (hb1 : b ≠ 1) (hg0 : g ≠ 0) (hg1 : g ≠ 1) :
    Calls Tryd.prog 18 #[.iface 33 (.pointer (some ⟨b, 0, none⟩)), .slice (some ⟨g, o, none⟩) m c, .int .i64 m] w fun e w' => e = .returned (.tuple #[.int .i64 q, .iface 63 (.pointer (some a1))]) ∧
      Rd w' b (.slice (some ⟨fb, fo, none⟩) n fc) (p + q) ∧ w'.heap[g]? = some (.cells (splice cur o cs).toArray 5 (0, 0)) ∧ Fr [b, g] w w' := by
  have k1 := nilAheadRead
  have k2 := methodRead
  have k3 := eqlNilNil
  have k4 := eqlErrNil
  obtain ⟨i, hi, hcmp⟩ := Option.map_eq_some_iff.1 isComp
  obtain ⟨j, hj, hjs⟩ := Option.map_eq_some_iff.1 isSize
  have k5 := fun w => run_eql_iface_ptr_same (P := Tryd.prog) w a0 Tryd.underlying38 Tryd.underlying63 hi hcmp hj
  clear hi hcmp hj hjs
  have m0 : (0 : Int) < (m : Int) := by omega
  have hc0 : ¬ c = 0 := by omega
  have hmc' : (m : Int) ≤ (c : Int) := by omega
  have hq1 : (q : Int) < (m : Int) := by omega
  have hq0 : (0 : Int) < (q : Int) := by omega
  have hqc : ¬ c = q := by omega
  have hq2 : (0 : Int) ≤ (q : Int) := by omega
  have hq3 : (q : Int) ≤ (m : Int) := by omega
  have hge : ¬ m ≤ q := by omega
  have hge' : ¬ (m : Int) ≤ (q : Int) := by omega
  have HH : Hid (Calls Tryd.prog 37 #[.pointer (some ⟨b, 0, none⟩), .slice (some ⟨g, o, none⟩) m c] w.drew fun e w' => e = .returned (.tuple #[.int .i64 q, .nilIface]) ∧
      Rd w' b (.slice (some ⟨fb, fo, none⟩) n fc) (p + q) ∧ w'.heap[g]? = some (.cells (splice cur o cs).toArray 5 (0, 0)) ∧ Fr [b, g] w.drew w') := read_some b fb fo n fc p g o m c q cur cs w.drew (h.of_block rfl) hn hnc hfc (by omega) (by omega) hm2 hgb hg hcs (by omega) hsrc hfb hfit h1
  have hpq : n ≤ p + q := by omega
  clear h hg hcs hsrc hfit h1 hq
  go_enter Tryd.func18, Tryd.ntmps18
  go_wp2
  refine wp_loop_rounds 3 ?_
  rw [rounds_succ]
  go_wp2
  go_region_with (go_at_call 37; refine Calls.mono HH.out ?_; rintro e w1 ⟨rfl, hr, hg2, hf⟩)
  have HR : Hid (Rd w1 b (.slice (some ⟨fb, fo, none⟩) n fc) (p + q) ∧ w1.heap[g]? = some (.cells (splice cur o cs).toArray 5 (0, 0)) ∧ Fr [b, g] w.drew w1) := ⟨hr, hg2, hf⟩
  have z0 : w1.cell? ⟨0, 0, none⟩ = some (.iface 63 (.pointer (some a0))) := hf.cell (x := ⟨0, 0, none⟩) he0 (by simp; omega)
  have z1 : w1.cell? ⟨1, 0, none⟩ = some (.iface 63 (.pointer (some a1))) := hf.cell (x := ⟨1, 0, none⟩) he1 (by simp; omega)
  clear hr hg2 hf HH he0 he1
  go_wp2
  rw [rounds_succ]
  go_wp2
  go_region_with (go_at_call 37; refine (read_end b (some ⟨fb, fo, none⟩) n fc (p + q) _ _ w1.drew (HR.out.1.of_block rfl) hpq z0).mono ?_; rintro e w' ⟨rfl, nn, rfl⟩)
  go_wp2
  rw [rounds_succ]
  go_wp2
  go_ret2
  exact ⟨rfl, HR.out.1.of_block rfl, HR.out.2.1, (((Fr.refl _ w).draws 1).trans HR.out.2.2).draws _⟩

theorem full_of (r buf : Value) (m : Nat) (g o c : Nat) (hbuf : buf = .slice (some ⟨g, o, none⟩) m c) (v1 v2 : Value) (w : World) (R : World → Prop)
    (h : Calls Tryd.prog 18 #[r, buf, .int .i64 m] w fun e w' => e = .returned (.tuple #[v1, v2]) ∧ R w') :
    Calls Tryd.prog 16 #[r, buf] w fun e w' => e = .returned (.tuple #[v1, v2]) ∧ R w' := by
  subst hbuf
  have HH : Hid (Calls Tryd.prog 18 #[r, .slice (some ⟨g, o, none⟩) m c, .int .i64 m] w fun e w' => e = .returned (.tuple #[v1, v2]) ∧ R w') := h
  clear h
  go_enter Tryd.func16, Tryd.ntmps16
  go_wp2_with (go_at_call 18; refine Calls.mono HH.out ?_; rintro e w1 ⟨rfl, hr⟩)
  go_ret2
  exact ⟨rfl, hr⟩

/-- A row of bytes, known whole. -/
def BufIs (w : World) (g : Nat) (ys : List Int) : Prop := w.heap[g]? = some (.cells (ys.map (Value.int .u8)).toArray 5 (0, 0))

theorem splice_map {α β : Type} (f : α → β) (L : List α) (o : Nat) (cs : List α) : splice (L.map f) o (cs.map f) = (splice L o cs).map f := by
  simp [splice]

/-- io.ReadFull over a bytes.Reader at place p of the bytes zs, into the room of m bytes from o on of the row g. -/
theorem full_any (b : Nat) (fa : Option Addr) (n p g o m c : Nat) (zs ys : List Int) (a0 a1 : Addr) (w : World) (hz : zs.length = n) (h : Rd w b (.slice fa n n) p) (hS : SB w fa zs) (hfa : Apart fa b) (hn : n ≤ 1048576) (hp : p ≤ n) (hm : 0 < m) (hmc : m ≤ c) (hcc : c ≤ 1048576)
    (hgb : g ≠ b) (hg : BufIs w g ys) (hfit : o + m ≤ ys.length)
    (he0 : w.cell? ⟨0, 0, none⟩ = some (.iface 63 (.pointer (some a0)))) (he1 : w.cell? ⟨1, 0, none⟩ = some (.iface 63 (.pointer (some a1)))) (hb0 : b ≠ 0) (hb1 : b ≠ 1) (hg0 : g ≠ 0) (hg1 : g ≠ 1) :
    Calls Tryd.prog 16 #[.iface 33 (.pointer (some ⟨b, 0, none⟩)), .slice (some ⟨g, o, none⟩) m c] w fun e w' => ∃ err, e = .returned (.tuple #[.int .i64 (min m (n - p) : Nat), err]) ∧
      (m ≤ n - p → err = .nilIface) ∧ (n - p < m → err = .iface 63 (.pointer (some a0)) ∨ err = .iface 63 (.pointer (some a1))) ∧
      Rd w' b (.slice fa n n) (p + min m (n - p)) ∧ BufIs w' g (splice ys o ((zs.drop p).take (min m (n - p)))) ∧ Fr [b, g] w w' := by
  by_cases hpn : p < n
  · obtain ⟨fb, fo, rfl, hc⟩ : ∃ fb fo, fa = some ⟨fb, fo, none⟩ ∧ ∀ i, i < zs.length → w.cell? ⟨fb, fo + i, none⟩ = some (.int .u8 (zs.getD i 0)) := by
      rcases hS with hS | hS
      · subst hS; simp at hz; omega
      · exact hS
    have hfb : fb ≠ b := hfa _ rfl
    have hsrc : ∀ q, ∀ j v, (((zs.drop p).take q).map (Value.int .u8))[j]? = some v → w.cell? ⟨fb, fo + p + j, none⟩ = some v := by
      intro q j v hj
      simp only [List.getElem?_map, List.getElem?_take, List.getElem?_drop] at hj
      by_cases hjq : j < q
      · rw [if_pos hjq] at hj
        by_cases hjz : p + j < zs.length
        · have := hc (p + j) hjz
          rw [Nat.add_assoc, this]
          simp [List.getElem?_eq_getElem hjz] at hj
          simp [List.getD, List.getElem?_eq_getElem hjz, hj]
        · simp [List.getElem?_eq_none (by omega : zs.length ≤ p + j)] at hj
      · rw [if_neg hjq] at hj; simp at hj
    by_cases hmn : m ≤ n - p
    · have e : min m (n - p) = m := by omega
      rw [e]
      have hl : (((zs.drop p).take m).map (Value.int .u8)).length = m := by simp; omega
      refine (full_of _ _ m g o c rfl _ _ w _ (atLeast_full b fb fo n n p g o m c (ys.map (Value.int .u8)) (((zs.drop p).take m).map (Value.int .u8)) w h hn (Nat.le_refl _) hn (by omega) hm (by omega) hmc hgb hg hl (hsrc m) hfb (by rw [hl]; simpa using hfit) (fun v hv => by obtain ⟨x, _, rfl⟩ := List.mem_map.1 hv; rfl))).mono ?_
      rintro e w' ⟨rfl, h1, h2, h3⟩
      exact ⟨_, rfl, fun _ => rfl, fun h => by omega, h1, by rw [splice_map] at h2; exact h2, h3⟩
    · have e : min m (n - p) = n - p := by omega
      rw [e]
      have hl : (((zs.drop p).take (n - p)).map (Value.int .u8)).length = n - p := by simp; omega
      refine (full_of _ _ m g o c rfl _ _ w _ (atLeast_short b fb fo n n p g o m c (n - p) (ys.map (Value.int .u8)) (((zs.drop p).take (n - p)).map (Value.int .u8)) a0 a1 w h hn (Nat.le_refl _) hn hpn rfl (by omega) (by omega) hmc hcc hgb hg hl (hsrc (n - p)) hfb (by rw [hl]; simp; omega) (fun v hv => by obtain ⟨x, _, rfl⟩ := List.mem_map.1 hv; rfl) he0 he1 hb0 hb1 hg0 hg1)).mono ?_
      rintro e w' ⟨rfl, h1, h2, h3⟩
      exact ⟨_, rfl, fun h => by omega, fun _ => .inr rfl, h1, by rw [splice_map] at h2; exact h2, h3⟩
  · have e : min m (n - p) = 0 := by omega
    rw [e]
    refine (full_of _ _ m g o c rfl _ _ w _ (atLeast_end b fa n n p g o m c a0 w h (by omega) hm (by omega) hmc he0)).mono ?_
    rintro e w' ⟨rfl, k, rfl⟩
    refine ⟨_, rfl, fun h => by omega, fun _ => .inl rfl, h.of_block rfl, ?_, (Fr.refl _ _).draws k⟩
    have : splice ys o ((zs.drop p).take 0) = ys := by simp [splice]
    rw [this]
    exact hg

end Go.Proofs.Qxb6618665aDoor
