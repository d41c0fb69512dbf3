/-
  The told card 'Rows.FnFailSyntaxFirstFailureKeepsShortToldSaid': the frame after the guide's proof-skeleton.mjs and its worked LabelTold.lean, HexbadSeven.lean. fmt's text is told by a Lean function of the authors' own (tested against real Go, not proved from fmt's source); the walk is for every F.
-/
import Derived.Test.Qxb6618665aFmtRows
import Derived.Test.Qxb6618665aFmtCards
import Derived.Test.Qxb6618665aFmtLawE
import Derived.WalkKit
import Derived.ProofKit
import Derived.OpenShut
import Derived.ShutString
import Derived.ChangeOld
import Derived.Below
import Derived.Stop.JoinedAt
import Derived.Stop.Texts
import Derived.Stop.JoinedTold
import Derived.SizedLaws
import Derived.SevenToldRow
namespace Go.Proofs.Qxb6618665aFmt.fnFailSyntaxFirstFailureKeepsShort
open Go.ChangeShapes Go.WideShapes Go.ChangeAt Go.RowKit Go.Kit
open Go.ChangeMaps (open_string shut_string)
open Go.Extern.Stop Go.Stop Go.Extern
set_option linter.unusedVariables false

theorem own : ownKnob Tryf.prog.godebug = none := by kernel_rfl
theorem laidOut : laidOutB Tryf.prog = true := by kernel_rfl

def IsRow (k : IntKind) (w : World) (a : Option Addr) (len cap : Nat) (zs : List Int) : Prop :=
  (a = none ∧ len = 0 ∧ cap = 0 ∧ zs = []) ∨
  ∃ x, a = some x ∧ len ≤ cap ∧ cap ≤ maxLen ∧ zs.length = cap ∧ (∀ i, i < zs.length → w.cell? (x.add i) = some (.int k (zs.getD i 0))) ∧ ∀ n ∈ zs, (Lit.int k n).wf = true

theorem row_sb {a0 : Option Addr} {len0 cap0 : Nat} {z0 : List Int} {w : World} (w0 : IsRow .u8 w a0 len0 cap0 z0) : (a0 = none → len0 = 0 ∧ cap0 = 0) ∧ len0 ≤ maxLen ∧ SB w a0 (z0.take len0) ∧ (z0.take len0).length = len0 := by
  rcases w0 with ⟨rfl, rfl, rfl, rfl⟩ | ⟨x, rfl, hlc, hcm, hzc, hc, _⟩
  · exact ⟨fun _ => ⟨rfl, rfl⟩, Nat.zero_le _, .inl (by simp), by simp⟩
  · refine ⟨(fun h => by cases h), (by omega), ?_, (by simp; omega)⟩
    by_cases h0 : len0 = 0
    · exact .inl (by simp [h0])
    · obtain ⟨b, off, spot⟩ := x
      have hsp : spot = none := by simpa [Addr.add] using World.cell?_spot (hc 0 (by omega))
      subst hsp
      refine .inr ⟨b, off, rfl, fun i hi => ?_⟩
      simp at hi
      have := hc i (by omega)
      rw [add_plain] at this
      rw [this]
      simp [List.getD, show i < len0 by omega]

theorem walk (F : Interp) (a0 : Option Addr) (len0 cap0 : Nat) (z0 : List Int) (a1 : Int) (s2 : ByteArray) (s3 : ByteArray) (w : World) (hF : F.answers w.tape) (w0 : IsRow .u8 w a0 len0 cap0 z0) (w2 : s2.size ≤ maxLen) (w3 : s3.size ≤ maxLen) :
    Calls Tryf.prog 4 #[.slice a0 len0 cap0, .int .i64 a1, .string s2, .string s3] w fun e w' => e = .returned (.bool true) ∧ Below w.heap.size w w' := by
  have up : ∀ (e : Ending) (w' : World), (e = .returned (.bool true) ∧ w' = w) → e = .returned (.bool true) ∧ Below w.heap.size w w' := fun e w' h => ⟨h.1, by rw [h.2]; exact Below.refl _ _⟩
  obtain ⟨hnil, hm, hS, hl⟩ := row_sb w0
  by_cases h : 65536 < len0 ∨ 65536 < s2.size ∨ 65536 < s3.size
  · exact (lawE_out a0 len0 cap0 a1 s2 s3 w hm w2 w3 h).mono up
  · exact lawE_main F a0 len0 cap0 a1 s2 s3 (z0.take len0) w hF hl hnil (by omega) (by omega) (by omega) hS

set_option maxRecDepth 100000 in
theorem lifted (os : Os) (started : os.Started) (H : Type) (enc : TypeId × Value → H) :
    ReturnsInTold none {} Tryf.checked os 4 .any Input.okWide ((OpenSpec.ofChange Rows.fnFailSyntaxFirstFailureKeepsShortSpec).preRow enc Tryf.prog Tryf.f4 [] false []) (fun F => ((OpenSpec.ofChange Rows.fnFailSyntaxFirstFailureKeepsShortSpec).at F).post enc Tryf.prog Tryf.f4 false true false false) (aloneAtReturn Tryf.prog) nothingAlways := by
  refine returnsInTold_of_row (C := Tryf.checked) (s := OpenSpec.ofChange Rows.fnFailSyntaxFirstFailureKeepsShortSpec) (by kernel_rfl) own started (by kernel_rfl) Tryf.func4
    (OpenSpec.witness_stopped (enc := enc) (C := Tryf.checked) false ⟨#[], #[.slice none 0 0, .int .i64 0, .string ⟨#[]⟩, .string ⟨#[]⟩], []⟩ 8 (by kernel_rfl) (by kernel_rfl) (by kernel_rfl) (by kernel_rfl)) ?_
  intro F W base args ds gs before _ hF hval0 hW _ _ hsz _ _
  have hval : ∀ (j : Nat) t v, Tryf.f4.params[j]? = some t → args[j]? = some v → Value.okWide Tryf.prog W .any base t v := hval0
  have hW' := hW
  obtain ⟨p, q, hA0, hV, rfl, hfz, hnd⟩ := hW
  have hA : DataW.TrodAll enc Tryf.prog W 0 (fun _ => true) true Tryf.f4.params.toList args.toList ds p := hA0
  rw [Tryf.params4] at hA hval
  obtain ⟨v0, vs0, d0, ds0, p0, q0, hargs, rfl, rfl, h0, r0⟩ := trodAll_cons hA
  obtain ⟨v1, vs1, d1, ds1, p1, q1, rfl, rfl, rfl, h1, r1⟩ := trodAll_cons r0
  obtain ⟨v2, vs2, d2, ds2, p2, q2, rfl, rfl, rfl, h2, r2⟩ := trodAll_cons r1
  obtain ⟨v3, vs3, d3, ds3, p3, q3, rfl, rfl, rfl, h3, r3⟩ := trodAll_cons r2
  obtain ⟨rfl, rfl, rfl⟩ := trodAll_nil r3
  obtain rfl : args = #[v0, v1, v2, v3] := by cases args; simp_all
  obtain ⟨rfl, rfl⟩ := trodVars_none hV
  obtain ⟨a0, len0, cap0, rfl⟩ := okWide_slice Tryf.underlying22 (hval 0 22 v0 rfl rfl)
  have k0 := h0
  have lt0 : ∀ x ∈ p0, x.block < W.heap.size := by obtain ⟨m, hm⟩ := k0; exact DataW.trod_lt m _ _ _ hm
  obtain ⟨z0, w0⟩ : ∃ zs, IsRow .u8 W a0 len0 cap0 zs := by
    obtain ⟨fuel, hf⟩ := h0
    rcases open_ints Tryf.underlying22 Tryf.underlying5 (by kernel_rfl) hf with ⟨hcs, _⟩ | ⟨x, l, c, zs, hcs, _, hl, hm, hz, _, hcell, hwz⟩
    · simp [Value.cells] at hcs
      obtain ⟨rfl, rfl, rfl⟩ := hcs
      exact ⟨[], .inl ⟨rfl, rfl, rfl, rfl⟩⟩
    · simp [Value.cells] at hcs
      obtain ⟨rfl, rfl, rfl⟩ := hcs
      exact ⟨zs, .inr ⟨_, rfl, hl, hm, by simpa using hz, hcell, hwz⟩⟩
  obtain ⟨a1, rfl, rfl, rfl, w1⟩ := open_int Tryf.underlying3 (hval 1 3 v1 rfl rfl) h1
  obtain ⟨s2, rfl, rfl, rfl, w2⟩ := open_string Tryf.underlying9 (hval 2 9 v2 rfl rfl) h2
  obtain ⟨s3, rfl, rfl, rfl, w3⟩ := open_string Tryf.underlying9 (hval 3 9 v3 rfl rfl) h3
  clear hA0 hval0
  refine (walk F.told a0 len0 cap0 z0 a1 s2 s3 W hF w0 w2 w3).mono fun e W' ⟨he, bel⟩ => ?_
  subst he
  exact ⟨_, rfl, _, _, _, [], _, [], hW', trodAll_mk1 (shut_bool Tryf.underlying4 _), (trodAll_cons_mk (Below.trod laidOut (by kernel_rfl) (of_decide_eq_true (by kernel_rfl)) k0 bel lt0) (trodAll_cons_mk (shut_int Tryf.underlying3 w1) (trodAll_cons_mk (shut_string Tryf.underlying9 w2) (trodAll_cons_mk (shut_string Tryf.underlying9 w3) trodAll_mk0)))), rfl, bel.frame _, fun h => by cases h⟩

theorem stopsAre : Tryf.pinned.checked.prog.stops = ["fmt.Sprintf"] := by kernel_rfl
theorem stopKnobsAre : Tryf.pinned.checked.prog.stopKnobs = [] := by kernel_rfl
theorem quietAll (os : Os) : Stop.quiet Tryf.pinned.checked.prog os := by
  intro k hk
  rw [stopKnobsAre] at hk
  cases hk

theorem proved : Rows.FnFailSyntaxFirstFailureKeepsShortToldSaid :=
  Claim7.holds_of_told_any 4 Tryf.f4 "fmt.Sprintf" [] [] _ _ _ (by kernel_rfl) rfl rfl rfl laidOut (by kernel_rfl) rfl ⟨rfl, rfl, rfl, rfl, rfl, rfl, rfl⟩ rfl rfl (by kernel_rfl) (by kernel_rfl) Tryf.func4 (by kernel_rfl)
    (of_decide_eq_true (by kernel_rfl)) (of_decide_eq_true (by kernel_rfl)) stopsAre.symm rfl stopKnobsAre.symm (by kernel_rfl)
    (by kernel_rfl) (by kernel_rfl) (by kernel_rfl) (by kernel_rfl) (by kernel_rfl) (by kernel_rfl) (by kernel_rfl) (by kernel_rfl) (by kernel_rfl) rfl (by kernel_rfl) rfl rfl
    rfl rfl
    rfl (by kernel_rfl) (by kernel_rfl) (by kernel_rfl) (by decide) (by kernel_rfl)
    (OpenClaim.moreEntering_of (by kernel_rfl) (by kernel_rfl) (by kernel_rfl) (by kernel_rfl) (by kernel_rfl) (by kernel_rfl) (by kernel_rfl) (by kernel_rfl) (by kernel_rfl) (by kernel_rfl))
    ⟨_, WideRow.started_initial, quietAll _⟩
    (fun os started _ H enc _ => lifted os started H enc)
end Go.Proofs.Qxb6618665aFmt.fnFailSyntaxFirstFailureKeepsShort

namespace Go.Proofs.Qxb6618665aFmt
theorem firstFailureProved : Rows.FnFailSyntaxFirstFailureKeepsShortToldSaid := fnFailSyntaxFirstFailureKeepsShort.proved
end Go.Proofs.Qxb6618665aFmt
