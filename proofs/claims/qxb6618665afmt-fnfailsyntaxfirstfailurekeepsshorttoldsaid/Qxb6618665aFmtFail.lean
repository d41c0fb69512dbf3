/-
  Fail, failAt, failEnd, failSyntax, ZZfailSyntax.
-/
import Derived.Test.Qxb6618665aFmtFnsC
import Derived.Deep.RegionHeld3
namespace Go.Proofs.Qxb6618665aFmt
open Go.RowKit Go.Extern.Stop Go.Stop Go.Extern
set_option linter.unusedVariables false

/-- An error that failAt has made. -/
def IsErr (v : Value) : Prop := ∃ x, v = .iface 46 (.pointer (some x))

theorem eqlNil (w : World) : (binOp .eql 27 .nilIface .nilIface).run Tryf.prog w = .ok (.bool true) w := by kernel_rfl
theorem eqlErr (x : Addr) (w : World) : (binOp .eql 27 (.iface 46 (.pointer (some x))) .nilIface).run Tryf.prog w = .ok (.bool false) w := by kernel_rfl

theorem Fail_nil (b : Nat) (d : Value) (pos base : Int) (sh : Bool) (pa : Value) (x : Addr) (w : World) (h : Sc w b d pos base .nilIface sh pa) :
    Calls Tryf.prog 26 #[.pointer (some ⟨b, 0, none⟩), .iface 46 (.pointer (some x))] w fun e w' => e = .returned (.tuple #[]) ∧ Sc w' b d pos base (.iface 46 (.pointer (some x))) sh pa ∧ w.grownBy w' (some b) := by
  have HS : Hid (Sc w b d pos base .nilIface sh pa) := h
  have c3 := h.c3
  have f3 := h.fz 3
  have k := eqlNil
  clear h
  go_enter Tryf.func26, Tryf.ntmps26
  go_wp2
  go_end0
  exact ⟨rfl, HS.out.setErr _, grownBy_setCell w b 3 _⟩

theorem Fail_set (b : Nat) (d : Value) (pos base : Int) (sh : Bool) (pa : Value) (x y : Addr) (w : World) (h : Sc w b d pos base (.iface 46 (.pointer (some y))) sh pa) :
    Calls Tryf.prog 26 #[.pointer (some ⟨b, 0, none⟩), .iface 46 (.pointer (some x))] w fun e w' => e = .returned (.tuple #[]) ∧ w' = w := by
  have c3 := h.c3
  have k := eqlErr
  go_enter Tryf.func26, Tryf.ntmps26
  go_wp2
  go_end0
  exact ⟨rfl, rfl⟩

/-- failAt where no error is recorded yet. -/
theorem failAt_nil (b : Nat) (d : Value) (pos base off : Int) (sh : Bool) (pa : Value) (msg : ByteArray) (w : World) (h : Sc w b d pos base .nilIface sh pa) :
    Calls Tryf.prog 24 #[.pointer (some ⟨b, 0, none⟩), .int .i64 off, .string msg] w fun e w' => e = .returned (.tuple #[]) ∧ (∃ err, IsErr err ∧ Sc w' b d off base err sh pa) ∧ w.grownBy w' (some b) := by
  have c1 := h.c1
  have f1 := h.fz 1
  have hb := h.lt
  have H1 : ∀ o, Sc ((w.setCell ⟨b, 1, none⟩ (.int .i64 off)).alloc o) b d off base .nilIface sh pa := fun o => (h.setPos off).of_block (Below.heap_alloc _ _ _ (by simpa [World.setCell] using hb))
  have HG : ∀ o, w.grownBy ((w.setCell ⟨b, 1, none⟩ (.int .i64 off)).alloc o) (some b) := fun o => (grownBy_setCell w b 1 _).trans (World.grownBy_alloc _ o _)
  have HH : Hid (∀ o, Sc ((w.setCell ⟨b, 1, none⟩ (.int .i64 off)).alloc o) b d off base .nilIface sh pa ∧ w.grownBy ((w.setCell ⟨b, 1, none⟩ (.int .i64 off)).alloc o) (some b)) := fun o => ⟨H1 o, HG o⟩
  clear H1 HG h
  go_enter Tryf.func24, Tryf.ntmps24
  go_wp2_with fail
  refine (Fail_nil b d off base sh pa _ _ (HH.out _).1).mono ?_
  rintro e w' ⟨rfl, h1, h2⟩
  go_wp2
  go_end0
  exact ⟨rfl, ⟨_, ⟨_, rfl⟩, h1⟩, (HH.out _).2.trans h2⟩

theorem failAt_set (b : Nat) (d : Value) (pos base off : Int) (sh : Bool) (pa : Value) (y : Addr) (msg : ByteArray) (w : World) (h : Sc w b d pos base (.iface 46 (.pointer (some y))) sh pa) :
    Calls Tryf.prog 24 #[.pointer (some ⟨b, 0, none⟩), .int .i64 off, .string msg] w fun e w' => e = .returned (.tuple #[]) ∧ Sc w' b d off base (.iface 46 (.pointer (some y))) sh pa ∧ w.grownBy w' (some b) := by
  have c1 := h.c1
  have f1 := h.fz 1
  have hb := h.lt
  have HH : Hid (∀ o, Sc ((w.setCell ⟨b, 1, none⟩ (.int .i64 off)).alloc o) b d off base (.iface 46 (.pointer (some y))) sh pa ∧ w.grownBy ((w.setCell ⟨b, 1, none⟩ (.int .i64 off)).alloc o) (some b)) :=
    fun o => ⟨(h.setPos off).of_block (Below.heap_alloc _ _ _ (by simpa [World.setCell] using hb)), (grownBy_setCell w b 1 _).trans (World.grownBy_alloc _ o _)⟩
  clear h
  go_enter Tryf.func24, Tryf.ntmps24
  go_wp2_with fail
  refine (Fail_set b d off base sh pa _ y _ (HH.out _).1).mono ?_
  rintro e w' ⟨rfl, rfl⟩
  go_wp2
  go_end0
  exact ⟨rfl, (HH.out _).1, (HH.out _).2⟩

/-- failAt: an error is recorded behind it. -/
theorem failAt_any (b : Nat) (d : Value) (pos base off : Int) (err : Value) (sh : Bool) (pa : Value) (msg : ByteArray) (w : World) (he : err = .nilIface ∨ IsErr err) (h : Sc w b d pos base err sh pa) :
    Calls Tryf.prog 24 #[.pointer (some ⟨b, 0, none⟩), .int .i64 off, .string msg] w fun e w' => e = .returned (.tuple #[]) ∧ (∃ err', IsErr err' ∧ Sc w' b d off base err' sh pa) ∧ w.grownBy w' (some b) := by
  rcases he with rfl | ⟨y, rfl⟩
  · exact failAt_nil b d pos base off sh pa msg w h
  · refine (failAt_set b d pos base off sh pa y msg w h).mono ?_
    rintro e w' ⟨rfl, h1, h2⟩
    exact ⟨rfl, ⟨_, ⟨y, rfl⟩, h1⟩, h2⟩

/-- failEnd where no error is recorded yet: short is set. -/
theorem failEnd_nil (b : Nat) (da : Option Addr) (n c : Nat) (pos base : Int) (sh : Bool) (pa : Value) (s : ByteArray) (w : World) (hn : n ≤ 1048576) (hs : s.size ≤ 1048576) (h : Sc w b (.slice da n c) pos base .nilIface sh pa) :
    Calls Tryf.prog 23 #[.pointer (some ⟨b, 0, none⟩), .string s] w fun e w' => e = .returned (.tuple #[]) ∧ (∃ err', IsErr err' ∧ Sc w' b (.slice da n c) n base err' true pa) ∧ w.grownBy w' (some b) := by
  have HS : Hid (Sc (w.setCell ⟨b, 4, none⟩ (.bool true)) b (.slice da n c) pos base .nilIface true pa) := h.setSh true
  have c0 := h.c0
  have c3 := h.c3
  have c4 := h.c4
  have f4 := h.fz 4
  have k := eqlNil
  clear h
  cases sh
  all_goals
    go_enter Tryf.func23, Tryf.ntmps23
    go_wp2_with fail
    refine (failAt_any b _ _ _ _ _ _ _ _ _ (.inl rfl) HS.out).mono ?_
    rintro e w' ⟨rfl, h1, h2⟩
    go_wp2
    go_end0
    exact ⟨rfl, h1, (grownBy_setCell w b 4 _).trans h2⟩

/-- failEnd where an error is recorded: short stays. -/
theorem failEnd_set (b : Nat) (da : Option Addr) (n c : Nat) (pos base : Int) (x : Addr) (sh : Bool) (pa : Value) (s : ByteArray) (w : World) (hn : n ≤ 1048576) (hs : s.size ≤ 1048576) (h : Sc w b (.slice da n c) pos base (.iface 46 (.pointer (some x))) sh pa) :
    Calls Tryf.prog 23 #[.pointer (some ⟨b, 0, none⟩), .string s] w fun e w' => e = .returned (.tuple #[]) ∧ (∃ err', IsErr err' ∧ Sc w' b (.slice da n c) n base err' sh pa) ∧ w.grownBy w' (some b) := by
  have HS : Hid (Sc (w.setCell ⟨b, 4, none⟩ (.bool sh)) b (.slice da n c) pos base (.iface 46 (.pointer (some x))) sh pa) := h.setSh sh
  have c0 := h.c0
  have c3 := h.c3
  have c4 := h.c4
  have f4 := h.fz 4
  have k := eqlErr
  clear h
  cases sh
  all_goals
    go_enter Tryf.func23, Tryf.ntmps23
    go_wp2_with fail
    refine (failAt_any b _ _ _ _ _ _ _ _ _ (.inr ⟨x, rfl⟩) HS.out).mono ?_
    rintro e w' ⟨rfl, h1, h2⟩
    go_wp2
    go_end0
    exact ⟨rfl, h1, (grownBy_setCell w b 4 _).trans h2⟩

end Go.Proofs.Qxb6618665aFmt
