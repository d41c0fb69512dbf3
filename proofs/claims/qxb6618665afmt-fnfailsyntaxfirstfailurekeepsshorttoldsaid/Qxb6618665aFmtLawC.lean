/-
  FnFailSyntaxOneByteMoreMovesTheFailure: the law's own walk.
-/
import Derived.Test.Qxb6618665aFmtSyntax
namespace Go.Proofs.Qxb6618665aFmt
open Go.RowKit Go.Extern.Stop Go.Stop Go.Extern
set_option linter.unusedVariables false

theorem neqErr (x : Addr) (w : World) : (binOp .neq 27 (.iface 46 (.pointer (some x))) .nilIface).run Tryf.prog w = .ok (.bool true) w := by kernel_rfl

theorem lead_snoc (zs : List Int) (x : Int) : lead (zs ++ [x]) = if lead zs = zs.length ∧ isSp x = true then zs.length + 1 else lead zs := by
  induction zs with
  | nil => by_cases h : isSp x = true <;> simp [lead, h]
  | cons z zs ih =>
    simp only [List.cons_append, lead, List.length_cons]
    by_cases hz : isSp z = true
    · simp only [hz, if_true, ih]
      by_cases h : lead zs = zs.length ∧ isSp x = true
      · rw [if_pos h, if_pos ⟨by omega, h.2⟩]
      · rw [if_neg h, if_neg (fun h' => h ⟨by omega, h'.2⟩)]
    · simp [hz]

/-- A Scanner's cells outlive what is made behind it. -/
theorem Sc.below {w w' : World} {B b : Nat} {d : Value} {pos base : Int} {err : Value} {sh : Bool} {pa : Value} (h : Sc w b d pos base err sh pa) (hb : Below B w w') (hB : b < B) : Sc w' b d pos base err sh pa := h.of_block (hb.block b hB)
theorem SB.below {w w' : World} {B : Nat} {a : Option Addr} {zs : List Int} (h : SB w a zs) (hb : Below B w w') (hB : ∀ x, a = some x → x.block < B) : SB w' a zs := by
  rcases h with h | ⟨b, o, rfl, hc⟩
  · exact .inl h
  · exact .inr ⟨b, o, rfl, fun i hi => (hb.cell (p := ⟨b, o + i, none⟩) (show b < B from hB ⟨b, o, none⟩ rfl)).trans (hc i hi)⟩
theorem Made.lt {w w' : World} {a : Option Addr} (h : Made w w' a) : ∀ x, a = some x → x.block < w'.heap.size := by
  intro x hx
  rcases h with rfl | ⟨rfl, h⟩
  · cases hx
  · cases hx; exact h
/-- What a contract with its one block to write leaves of what lies below that block. -/
theorem below_row {B : Nat} {w w' : World} {b : Nat} (hg : w.grownBy w' (some b)) (hB : B ≤ b) (hs : B ≤ w.heap.size) : Below B w w' := (Below.refl B w).grown hg hs (by simp; exact hB)
theorem below_none {B : Nat} {w w' : World} (hg : w.grownBy w' none) (hs : B ≤ w.heap.size) : Below B w w' := (Below.refl B w).grown hg hs (by simp)

/-- Reset, SkipSpace and a failure over fresh memory: what the three calls leave. -/
structure Ran (w w' : World) (b : Nat) (da : Option Addr) (n c : Nat) (zs : List Int) (base : Int) (err : Value) : Prop where
  sc : Sc w' b (.slice da n c) (lead zs) base err (decide (lead zs = n)) (.slice none 0 0)
  ie : IsErr err
  g : w.grownBy w' (some b)

theorem bytesC_ok (a : Option Addr) (n c : Nat) (x : Int) (s : ByteArray) (z : Int) (w : World) (hn : n ≤ 65536) (hs : s.size ≤ 65536) :
    Calls Tryf.prog 20 #[.slice a n c, .int .i64 x, .string s, .int .u8 z] w fun e w' => e = .returned (.bool true) ∧ w' = w := by
  go_enter Tryf.func20, Tryf.ntmps20
  go_wp2
  go_ret
  exact ⟨rfl, rfl⟩

section
variable (a : Option Addr) (n c : Nat) (x : Int) (s : ByteArray) (z : Int) (w : World)

/-- More bytes than the law looks at. -/
theorem lawC_out (hm : n ≤ maxLen) (hsm : s.size ≤ maxLen) (h : 65536 < n ∨ 65536 < s.size) : Calls Tryf.prog 5 #[.slice a n c, .int .i64 x, .string s, .int .u8 z] w fun e w' => e = .returned (.bool true) ∧ w' = w := by
  unfold maxLen at hm hsm
  by_cases h1 : 1048576 < n
  · go_enter Tryf.func5, Tryf.ntmps5
    go_wp2
    go_ret
    exact ⟨rfl, rfl⟩
  by_cases h2 : 1048576 < s.size
  · go_enter Tryf.func5, Tryf.ntmps5
    go_wp2
    go_ret
    exact ⟨rfl, rfl⟩
  by_cases h3 : 1048576 < n + s.size
  · go_enter Tryf.func5, Tryf.ntmps5
    go_wp2
    go_ret
    exact ⟨rfl, rfl⟩
  by_cases h4 : 65536 < n
  · go_enter Tryf.func5, Tryf.ntmps5
    go_wp2
    go_ret
    exact ⟨rfl, rfl⟩
  · have h5 : 65536 < s.size := by omega
    go_enter Tryf.func5, Tryf.ntmps5
    go_wp2
    go_ret
    exact ⟨rfl, rfl⟩
end

end Go.Proofs.Qxb6618665aFmt
