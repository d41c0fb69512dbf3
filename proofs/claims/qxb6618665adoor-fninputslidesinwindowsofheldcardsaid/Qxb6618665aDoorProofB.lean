/-
  The row 'Rows.FnInputSlidesInWindowsOfHeldSaid' and its tied card 'Rows.FnInputSlidesInWindowsOfHeldCardSaid', out of the walk in Qxb6618665aDoorLawB.lean: the frame after the guide's proof-skeleton.mjs and its worked ToyasProofs.lean, ToyasCard.lean, Sent6Proofs.lean.
-/
import Derived.Test.Qxb6618665aDoorRows
import Derived.Test.Qxb6618665aDoorTie
import Derived.Test.Qxb6618665aDoorCards
import Derived.Test.Qxb6618665aDoorLawB
import Derived.WalkKit
import Derived.ProofKit
import Derived.OpenShut
import Derived.ShutString
import Derived.ChangeOld
import Derived.Below
import Derived.ChangeVars
import Derived.RowKitTokens
import Derived.LaidLaws
import Derived.LaidHandle
import Derived.LaidSub
import Derived.Stop.LaidTwo
import Derived.SevenTiedAt
namespace Go.Proofs.Qxb6618665aDoor.fnInputSlidesInWindowsOfHeld
open Go.ChangeShapes Go.WideShapes Go.ChangeAt Go.RowKit
open Go.ChangeMaps (open_string shut_string)
set_option linter.unusedVariables false

theorem own : ownKnob Tryd.prog.godebug = none := by kernel_rfl
theorem laidOut : laidOutB Tryd.prog = true := by kernel_rfl
theorem eofNamed : Tryd.prog.globalNamed "io.EOF" = some 0 := by kernel_rfl
theorem ueofNamed : Tryd.prog.globalNamed "io.ErrUnexpectedEOF" = some 1 := by kernel_rfl
theorem eofType : (Tryd.prog.globals[0]?).map (·.type) = some 38 := by kernel_rfl
theorem ueofType : (Tryd.prog.globals[1]?).map (·.type) = some 38 := by kernel_rfl
theorem cells91 : Tryd.prog.cellsOf 91 = 1 := by kernel_rfl
theorem cells9 : Tryd.prog.cellsOf 9 = 1 := by kernel_rfl
def tname : DataW Unit → String
  | .iface n _ => n
  | _ => ""
theorem row63 (u : TypeId) (h : Tryd.prog.typeName? 3 u = some (tname Rows.laid_io_EOF)) : u = 63 :=
  typeName_ptr_named (nm := "errors.errorString") (by kernel_rfl) (by kernel_rfl) (by decide) u (h.trans (congrArg some (by decide)))

/-- WHAT THE CONDITION GIVES THE WALK: the two sentinels that are met. -/
theorem env_of_laid {W : World} (h : laidMetH Tryd.prog Rows.fnInputSlidesInWindowsOfHeldRow.laid W) : ∃ a0 a1, Env W W.heap.size a0 a1 := by
  have h1 : laidMet Tryd.prog [("io.ErrShortBuffer", Rows.laid_io_ErrShortBuffer), ("io.EOF", Rows.laid_io_EOF), ("io.ErrUnexpectedEOF", Rows.laid_io_ErrUnexpectedEOF)] W := h
  have h2 : laidMet Tryd.prog [("io.EOF", Rows.laid_io_EOF), ("io.ErrUnexpectedEOF", Rows.laid_io_ErrUnexpectedEOF)] W := h1.filter (fun x => !(x.1 == "io.ErrShortBuffer"))
  obtain ⟨a0, a1, s0, s1, c0, c1, t0, t1, hv0, hv1, hc0, hs0, hz0, hc1, hs1, hz1, hne, hb0, hb1⟩ := laid_sentinels2 h2 eofNamed eofType ueofNamed ueofType Tryd.underlying38 row63 Tryd.underlying63 Tryd.underlying91 rfl rfl Tryd.underlying9 cells91 cells9
  have hg0 : W.cell? ⟨0, 0, none⟩ = some (.iface 63 (.pointer (some a0))) := by simpa using World.var?_cell eofNamed hv0 0
  have hg1 : W.cell? ⟨1, 0, none⟩ = some (.iface 63 (.pointer (some a1))) := by simpa using World.var?_cell ueofNamed hv1 0
  exact ⟨a0, a1, hg0, hg1, Ne.symm hne, ⟨_, _, hb0⟩, ⟨_, _, hb1⟩, World.block_lt_of_cell? _ ⟨1, 0, none⟩ hg1, World.block_lt_of_cell? _ _ hc0, World.block_lt_of_cell? _ _ hc1, Nat.le_refl _⟩

def IsRow (k : IntKind) (w : World) (a : Option Addr) (len cap : Nat) (zs : List Int) : Prop :=
  (a = none ∧ len = 0 ∧ cap = 0 ∧ zs = []) ∨
  ∃ x, a = some x ∧ len ≤ cap ∧ cap ≤ maxLen ∧ zs.length = cap ∧ (∀ i, i < zs.length → w.cell? (x.add i) = some (.int k (zs.getD i 0))) ∧ ∀ n ∈ zs, (Lit.int k n).wf = true

theorem walk (a0 : Option Addr) (len0 cap0 : Nat) (z0 : List Int) (a1 : Int) (a2 : Int) (w : World) (w0 : IsRow .u8 w a0 len0 cap0 z0) (hE : ∃ x y, Env w w.heap.size x y) :
    Calls Tryd.prog 4 #[.slice a0 len0 cap0, .int .i64 a1, .int .i64 a2] w fun e w' => e = .returned (.bool true) ∧ Below w.heap.size w w' := by
  obtain ⟨ex, ey, hE⟩ := hE
  obtain ⟨hnil, hm, hS, hl⟩ : (a0 = none → len0 = 0 ∧ cap0 = 0) ∧ len0 ≤ maxLen ∧ SB w a0 (z0.take len0) ∧ (z0.take len0).length = len0 := by
    rcases w0 with ⟨rfl, rfl, rfl, rfl⟩ | ⟨x, rfl, hlc, hcm, hzc, hc, _⟩
    · exact ⟨fun _ => ⟨rfl, rfl⟩, Nat.zero_le _, .inl (by simp), by simp⟩
    · refine ⟨(fun h => by cases h), (by omega), ?_, (by simp; omega)⟩
      by_cases h0 : len0 = 0
      · exact .inl (by simp [h0])
      · obtain ⟨b, off, spot⟩ := x
        have hsp : spot = none := by simpa [Addr.add] using World.cell?_spot (hc 0 (by omega))
        subst hsp
        refine .inr ⟨b, off, rfl, fun i hi => ?_⟩
        simp at hi
        have := hc i (by omega)
        rw [add_plain] at this
        rw [this]
        simp [List.getD, show i < len0 by omega]
  have up : ∀ (e : Ending) (w' : World), (e = .returned (.bool true) ∧ w' = w) → e = .returned (.bool true) ∧ Below w.heap.size w w' := fun e w' h => ⟨h.1, by rw [h.2]; exact Below.refl _ _⟩
  by_cases h1 : 1048576 < len0
  · exact (lawB_big1 a0 len0 cap0 a1 a2 w h1 hm).mono up
  by_cases h2 : 65536 < len0
  · exact (lawB_big2 a0 len0 cap0 a1 a2 w (by omega) h2).mono up
  by_cases h5 : 65536 < a1
  · exact (lawB_held a0 len0 cap0 a1 a2 w (by omega) h5).mono up
  by_cases h3 : a2 < 0
  · exact (lawB_neg a0 len0 cap0 a1 a2 w (by omega) h5 h3).mono up
  by_cases h4 : 256 < a2
  · exact (lawB_over a0 len0 cap0 a1 a2 w (by omega) h5 h3 h4).mono up
  obtain ⟨k, rfl⟩ := Int.eq_ofNat_of_zero_le (show 0 ≤ a2 by omega)
  exact lawB_main a0 len0 cap0 k a1 (z0.take len0) w.heap.size ex ey w hl hnil (by omega) (by omega) (by omega) hS hE

set_option maxRecDepth 100000 in
theorem lifted (os : Os) (started : os.Started) (H : Type) (enc : TypeId × Value → H) :
    ReturnsInHanded {} Tryd.checked os 4 .any (fun w args => (Rows.fnInputSlidesInWindowsOfHeldSpec.pre enc Tryd.prog Tryd.f4 [] false w args ∧ laidMetH Tryd.prog Rows.fnInputSlidesInWindowsOfHeldRow.laid w) ∧ sizedMet enc Tryd.prog Tryd.f4 (OpenSpec.ofChange Rows.fnInputSlidesInWindowsOfHeldSpec) false w args)
      (Rows.fnInputSlidesInWindowsOfHeldSpec.post enc Tryd.prog Tryd.f4 false true false false) := by
  refine returnsInHanded_of_change_and (C := Tryd.checked) (X := fun w _ => laidMetH Tryd.prog Rows.fnInputSlidesInWindowsOfHeldRow.laid w) (fun _ _ _ hh h => h.of_heap hh) own started (by kernel_rfl) Tryd.func4
    (ChangeSpec.witness_at (enc := enc) (C := Tryd.checked) (os := os) (X := fun w _ => laidMetH Tryd.prog Rows.fnInputSlidesInWindowsOfHeldRow.laid w) false
      { World.holding Tryd.prog os ⟨#[.cells #[.string ⟨#[69, 79, 70]⟩] 91, .cells #[.string ⟨#[117, 110, 101, 120, 112, 101, 99, 116, 101, 100, 32, 69, 79, 70]⟩] 91, .cells #[.string ⟨#[115, 104, 111, 114, 116, 32, 98, 117, 102, 102, 101, 114]⟩] 91], #[], []⟩ with
        heap := (((World.holding Tryd.prog os ⟨#[.cells #[.string ⟨#[69, 79, 70]⟩] 91, .cells #[.string ⟨#[117, 110, 101, 120, 112, 101, 99, 116, 101, 100, 32, 69, 79, 70]⟩] 91, .cells #[.string ⟨#[115, 104, 111, 114, 116, 32, 98, 117, 102, 102, 101, 114]⟩] 91], #[], []⟩).heap.setIfInBounds 0 (.cells #[.iface 63 (.pointer (some ⟨8, 0, none⟩))] 38)).setIfInBounds 1 (.cells #[.iface 63 (.pointer (some ⟨9, 0, none⟩))] 38)).setIfInBounds 2 (.cells #[.iface 63 (.pointer (some ⟨10, 0, none⟩))] 38) }
      #[.slice none 0 0, .int .i64 0, .int .i64 0] 8 rfl (by kernel_rfl) (by kernel_rfl) (by kernel_rfl) (by kernel_rfl) (by kernel_rfl) (laidMetH_of_parts (laidMet_of_run' 8 (by kernel_rfl) (by kernel_rfl)) (by kernel_rfl))) ?_
  intro W base args ds gs before hval0 hW _ _ hL _
  have hval : ∀ (j : Nat) t v, Tryd.f4.params[j]? = some t → args[j]? = some v → Value.okWide Tryd.prog W .any base t v := hval0
  have hW' := hW
  obtain ⟨p, q, hA0, hV0, rfl, hfz, hnd⟩ := hW
  have hA : DataW.TrodAll enc Tryd.prog W 0 (fun _ => true) true Tryd.f4.params.toList args.toList ds p := hA0
  have hV : DataW.TrodVars enc Tryd.prog W (fun _ => true) [] gs q := hV0
  rw [Tryd.params4] at hA hval
  obtain ⟨v0, vs0, d0, ds0, p0, q0, hargs, rfl, rfl, h0, r0⟩ := trodAll_cons hA
  obtain ⟨v1, vs1, d1, ds1, p1, q1, rfl, rfl, rfl, h1, r1⟩ := trodAll_cons r0
  obtain ⟨v2, vs2, d2, ds2, p2, q2, rfl, rfl, rfl, h2, r2⟩ := trodAll_cons r1
  obtain ⟨rfl, rfl, rfl⟩ := trodAll_nil r2
  obtain rfl : args = #[v0, v1, v2] := by cases args; simp_all
  obtain ⟨rfl, rfl⟩ := trodVars_none hV
  obtain ⟨a0, len0, cap0, rfl⟩ := okWide_slice Tryd.underlying22 (hval 0 22 v0 rfl rfl)
  have k0 := h0
  have lt0 : ∀ x ∈ p0, x.block < W.heap.size := by obtain ⟨m, hm⟩ := k0; exact DataW.trod_lt m _ _ _ hm
  obtain ⟨z0, w0⟩ : ∃ zs, IsRow .u8 W a0 len0 cap0 zs := by
    obtain ⟨fuel, hf⟩ := h0
    rcases open_ints Tryd.underlying22 Tryd.underlying5 (by kernel_rfl) hf with ⟨hcs, _⟩ | ⟨x, l, c, zs, hcs, _, hl, hm, hz, _, hcell, hwz⟩
    · simp [Value.cells] at hcs
      obtain ⟨rfl, rfl, rfl⟩ := hcs
      exact ⟨[], .inl ⟨rfl, rfl, rfl, rfl⟩⟩
    · simp [Value.cells] at hcs
      obtain ⟨rfl, rfl, rfl⟩ := hcs
      exact ⟨zs, .inr ⟨_, rfl, hl, hm, by simpa using hz, hcell, hwz⟩⟩
  obtain ⟨a1, rfl, rfl, rfl, w1⟩ := open_int Tryd.underlying3 (hval 1 3 v1 rfl rfl) h1
  obtain ⟨a2, rfl, rfl, rfl, w2⟩ := open_int Tryd.underlying3 (hval 2 3 v2 rfl rfl) h2
  clear hA0 hval0
  refine (walk a0 len0 cap0 z0 a1 a2 W w0 (env_of_laid hL)).mono fun e W' ⟨he, bel⟩ => ?_
  subst he
  exact ⟨_, rfl, _, _, _, [], _, [], hW', trodAll_mk1 (shut_bool Tryd.underlying4 _), (trodAll_cons_mk (Below.trod laidOut (by kernel_rfl) (of_decide_eq_true (by kernel_rfl)) k0 bel lt0) (trodAll_cons_mk (shut_int Tryd.underlying3 w1) (trodAll_cons_mk (shut_int Tryd.underlying3 w2) trodAll_mk0))), rfl, bel.frame _, fun h => by cases h⟩

theorem over : Rows.FnInputSlidesInWindowsOfHeldSaid :=
  OpenClaim.holds_of_wide 4 Tryd.f4 rfl rfl rfl rfl rfl rfl rfl ⟨rfl, rfl, rfl, rfl, rfl⟩ rfl rfl rfl rfl rfl (by kernel_rfl) Tryd.func4 (by kernel_rfl)
    (of_decide_eq_true (by kernel_rfl)) (by unfold Func.isWrapper; first | (rw [if_pos (by decide +kernel)]; kernel_rfl) | (rw [if_neg (by decide +kernel)]; exact ⟨rfl, rfl⟩))
    (fun os started H enc _ => lifted os started H enc)

theorem proved : Rows.FnInputSlidesInWindowsOfHeldCardSaid :=
  Claim7.holds_tied_plain_at .later [] [.sentinel, .sentinel, .sentinel] true (true, "c1713e3525cc222c516a1deec23ced122198d856e3287aa930daef57774cc1c5") true
    over (fun _ h => by cases h) (by kernel_rfl) (fun _ h => by cases h) fnInputSlidesInWindowsOfHeld_row_tie rfl ⟨rfl, rfl⟩ (by kernel_rfl) rfl
    (fun f fn hf hfn => by
      obtain rfl : f = 4 := Option.some.inj ((show Tryd.prog.funcNamed Rows.fnInputSlidesInWindowsOfHeldRow.func = some 4 by kernel_rfl).symm.trans hf) |>.symm
      obtain rfl : fn = Tryd.f4 := (Option.some.inj (Tryd.func4.symm.trans hfn)).symm
      exact ⟨by kernel_rfl, fun j t ht => by
        rw [Tryd.params4] at ht
        have h3 : t = 22 ∨ t = 3 := by
          rcases j with _ | _ | _ | j
          · exact .inl (by simpa using ht.symm)
          · exact .inr (by simpa using ht.symm)
          · exact .inr (by simpa using ht.symm)
          · simp at ht
        rcases h3 with rfl | rfl
        · exact (show Tryd.prog.wantsStandIn 22 = false by kernel_rfl)
        · exact (show Tryd.prog.wantsStandIn 3 = false by kernel_rfl)⟩)
    (by kernel_rfl)
end Go.Proofs.Qxb6618665aDoor.fnInputSlidesInWindowsOfHeld

namespace Go.Proofs.Qxb6618665aDoor
theorem inputSlidesProved : Rows.FnInputSlidesInWindowsOfHeldCardSaid := fnInputSlidesInWindowsOfHeld.proved
end Go.Proofs.Qxb6618665aDoor
