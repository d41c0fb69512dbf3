/-
  Seat b6618722aF: encoding/hex.EncodeToString of 32 bytes: some string; (Identity).String.
-/
import Derived.Test.Qxb6618722aFmtFnsE
import Derived.Deep.OwnRows
import Derived.Laws.Strings3
import Derived.Lib.Bytes
namespace Go.Proofs.Qxb6618722aFmt
open Go.RowKit Go.Maps
set_option linter.unusedVariables false
set_option maxRecDepth 4000

def AllU8 (g : Nat → Value) : Prop := ∀ j, ∃ z, g j = .int .u8 z

theorem grown_refl (w : World) (row : Option Nat) : w.grownBy w row := ⟨rfl, rfl, rfl, Nat.le_refl _, fun _ _ _ => rfl⟩

set_option maxHeartbeats 2000000 in
theorem encode_any (bd : Nat) (f : Nat → Value) (bs : Nat) (d : List Int) (w : World) (hd : Good d) (hsrc : w.rangeAt bs 0 (ar d)) (hrow : w.rowIs bd 5 64 f) (hf : AllU8 f) (hne : bd ≠ bs) :
    Calls Tryf.prog 31 #[.slice (some ⟨bd, 0, none⟩) 64 64, .slice (some ⟨bs, 0, none⟩) 32 32] w fun e w' => e = .returned (.int .i64 64) ∧ ∃ g, AllU8 g ∧ w'.rowIs bd 5 64 g ∧ w.grownBy w' (some bd) := by
  have HS : Hid (w.rangeAt bs 0 (ar d)) := hsrc
  have HF : Hid (AllU8 f) := hf
  clear hsrc hf
  go_enter Tryf.func31, Tryf.ntmps31
  go_wp2
  go_loopw [5, 10] (fun vj vi wr => ∃ k : Nat, k ≤ 32 ∧ vi = .int .i64 k ∧ vj = .int .i64 ((2 * k : Nat) : Int) ∧ ∃ g, Hid (AllU8 g) ∧ Hid (wr.rowIs bd 5 64 g) ∧ Hid (w.grownBy wr (some bd))) (fun _ vi _ => 32 - (intOf vi).toNat)
  case atStart => exact ⟨0, Nat.zero_le _, rfl, rfl, f, HF, hrow, grown_refl _ _⟩
  case round =>
    obtain ⟨k, hk, rfl, rfl, g, hg, hrw, hgr⟩ := hrel
    clear hrow
    by_cases hlt : k < 32
    · have hlt' : (k : Int) < 32 := by omega
      have hkd : k < d.length := by rw [hd.len]; exact hlt
      obtain ⟨x, hxk⟩ : ∃ x, x = d[k] := ⟨_, rfl⟩
      have hx : 0 ≤ x ∧ x < 256 := by rw [hxk]; exact hd.byte _ (List.getElem_mem hkd)
      obtain ⟨hx0, hx1⟩ := hx
      have hcx : wr.cell? ⟨bs, k, none⟩ = some (.int .u8 x) := by
        have := hgr.out.cell (HS.out k (.int .u8 x) (by simp [ar, hxk, hkd])) (by simp; omega)
        simpa using this
      have hf1 : wr.frozen? ⟨bd, 2 * k, none⟩ = false := hrw.out.frozen _
      have hc1 : wr.cell? ⟨bd, 2 * k, none⟩ = some (g (2 * k)) := hrw.out.cell (by omega)
      have hf2 : ∀ v, (wr.setCell ⟨bd, 2 * k, none⟩ v).frozen? ⟨bd, 2 * k + 1, none⟩ = false := fun v => (hrw.out.set _ v).frozen _
      have hc2 : ∀ v, (wr.setCell ⟨bd, 2 * k, none⟩ v).cell? ⟨bd, 2 * k + 1, none⟩ = some (g (2 * k + 1)) := fun v => by
        have := (hrw.out.set (2 * k) v).cell (i := 2 * k + 1) (by omega)
        rwa [if_neg (by omega)] at this
      clear hxk hkd
      go_wp2
      go_roundw
      case rel =>
        refine ⟨k + 1, by omega, by go_num, by first | go_num | (congr 1; omega), _, ?_, (hrw.out.set _ _).set _ _, (hgr.out.trans (grown_setCell _ _ _ _)).trans (grown_setCell _ _ _ _)⟩
        intro j
        dsimp only
        split
        · exact ⟨_, rfl⟩
        · split
          · exact ⟨_, rfl⟩
          · exact hg.out j
      case measure => simp [intOf]; omega
    · have hlt' : ¬ (k : Int) < 32 := by omega
      go_wp2
      go_ret
      exact ⟨rfl, g, hg.out, hrw.out, hgr.out⟩

def num : Value → Int
  | .int _ n => n
  | _ => 0

theorem info5 : (Tryf.prog.info? 5).map (fun i => (i.zero, i.size, i.bytes)) = some (some (Value.int IntKind.u8 0), 1, 1) := by kernel_rfl

/-- A string is handed back. -/
def IsS (e : Ending) : Prop := ∃ s, e = .returned (.string s)

set_option maxHeartbeats 2000000 in
theorem encodeToString_any (bs : Nat) (d : List Int) (w : World) (hd : Good d) (hsrc : w.rangeAt bs 0 (ar d)) (hb : bs < w.heap.size) :
    Calls Tryf.prog 26 #[.slice (some ⟨bs, 0, none⟩) 32 32] w fun e w' => IsS e ∧ Below w.heap.size w w' := by
  have hmk : ∀ w : World, (Instr.makeSlice 43 (.int .i64 64) (.int .i64 64)).run Tryf.prog w = .ok (.slice (some ⟨w.heap.size, 0, none⟩) 64 64) (w.alloc (.cells (madeCells #[.int .u8 0] 64) 5)) :=
    fun w => run_make_row' (P := Tryf.prog) 43 5 (.int .u8 0) 1 Tryf.underlying43 info5 rfl .i64 .i64 64 (by omega) (by omega) w
  have HS : Hid (w.rangeAt bs 0 (ar d)) := hsrc
  clear hsrc
  go_enter Tryf.func26, Tryf.ntmps26
  go_wp2_with (first | (go_at_call 30; go_in))
  have hrow := World.rowIs_made w (.int .u8 0) 64 5
  have g1 := World.grownBy_alloc w (.cells (madeCells #[.int .u8 0] 64) 5) none
  refine (encode_any w.heap.size _ bs d _ hd (rangeAt_grow g1 HS.out (by simp)) hrow (fun j => ⟨_, rfl⟩) (by omega)).mono ?_
  rintro e w2 ⟨rfl, g, hg, hr2, hgr⟩
  have hcv := run_convert_bytes_arg (P := Tryf.prog) w2 43 5 Tryf.underlying43 Tryf.underlying5 w.heap.size 0 64 64 ((List.range 64).map fun j => num (g j)) (by simp) (fun i hi => by
    rw [Nat.zero_add, hr2.cell hi]
    obtain ⟨z, hz⟩ := hg i
    simp [hi, hz, num]) 9 Tryf.underlying9
  have HB : Hid (Below w.heap.size w w2) := ((Below.refl _ w).alloc (Nat.le_refl _) _).trans (below_of hgr (by simp) (by simp))
  clear hr2 hgr hg hrow g1
  go_wp2
  go_ret
  exact ⟨⟨_, rfl⟩, HB.out⟩

set_option maxHeartbeats 1000000 in
theorem idString_any (d : List Int) (w : World) (hd : Good d) :
    Calls Tryf.prog 16 #[A d] w fun e w' => IsS e ∧ Below w.heap.size w w' := by
  go_enter Tryf.func16, Tryf.ntmps16
  go_wp2_with (first
    | (refine wpList_boxG rfl 44 _ rfl (ar d) rfl ?_
       intro w1 n1))
  refine (encodeToString_any w.heap.size d w1 hd n1.range (by rw [n1.size]; omega)).mono ?_
  rintro e w2 ⟨⟨s, rfl⟩, hb⟩
  have HB : Hid (Below w.heap.size w w2) := (below_of n1.grown (Nat.le_refl _) (by simp)).trans (hb.mono (by rw [n1.size]; omega))
  clear hb
  go_wp2
  go_ret
  exact ⟨⟨_, rfl⟩, HB.out⟩

end Go.Proofs.Qxb6618722aFmt
