/-
  failSyntax, ZZfailSyntax: fmt.Sprintf's text is whatever F gives.
-/
import Derived.Test.Qxb6618665aFmtFail
namespace Go.Proofs.Qxb6618665aFmt
open Go.RowKit Go.Extern.Stop Go.Stop Go.Extern
set_option linter.unusedVariables false

theorem call25 (args : Array Value) (w : World) : (callFunc 25 args).run Tryf.prog w = ((FmtStop.sprintf #[9, 67] #[9] args).run Tryf.prog w).andThen fun v w' => .ok (.value v) w' :=
  run_callFunc_extern Tryf.func25 (by kernel_rfl) (by kernel_rfl) (by kernel_rfl) (by kernel_rfl) args w
theorem fmtGuard (name : String) (w : World) : (FmtStop.guard name).run Tryf.prog w = .ok () w := by kernel_rfl
theorem fmtA : FmtStop.printed? ⟨#[98, 121, 116, 101, 32, 37, 100, 32, 105, 115, 32, 37, 113, 44, 32, 119, 104, 101, 114, 101, 32, 37, 115, 32, 115, 104, 111, 117, 108, 100, 32, 98, 101]⟩ 3 = some [(0, 100, false), (1, 113, false), (2, 115, false)] := by kernel_rfl
theorem fmtAr (w : World) : (FmtDoors.printed ⟨#[98, 121, 116, 101, 32, 37, 100, 32, 105, 115, 32, 37, 113, 44, 32, 119, 104, 101, 114, 101, 32, 37, 115, 32, 115, 104, 111, 117, 108, 100, 32, 98, 101]⟩ 3).run Tryf.prog w = .ok [(0, 100, false), (1, 113, false), (2, 115, false)] w := by kernel_rfl
def shape3 : List UInt8 := [5, 3, 0, 0, 0, 0, 0, 0, 0, 105, 110, 116]
def shape5 : List UInt8 := [6, 5, 0, 0, 0, 0, 0, 0, 0, 117, 105, 110, 116, 56]
def shape9 : List UInt8 := [12, 6, 0, 0, 0, 0, 0, 0, 0, 115, 116, 114, 105, 110, 103]
theorem op3_100 (name : String) (x : Int) (w : World) : (FmtStop.operand name false 100 false (.iface 3 (.int .i64 x))).run Tryf.prog w = .ok (shape3, Go.Extern.Stop.digits 8 (x % 2 ^ 64).toNat) w := by kernel_rfl
theorem op5_113 (name : String) (x : Int) (w : World) : (FmtStop.operand name false 113 false (.iface 5 (.int .u8 x))).run Tryf.prog w = .ok (shape5, Go.Extern.Stop.digits 8 (x % 2 ^ 64).toNat) w := by kernel_rfl
theorem op9_115 (name : String) (x : ByteArray) (w : World) : (FmtStop.operand name false 115 false (.iface 9 (.string x))).run Tryf.prog w = .ok (shape9, FmtStop.pack x.data.toList) w := by kernel_rfl

theorem grownBy_draws (w : World) (k : Nat) (row : Option Nat) : w.grownBy (w.drewN k) row := ⟨rfl, rfl, rfl, Nat.le_refl _, fun _ _ _ => rfl⟩

def nilB : Value → Bool
  | .nilIface => true
  | _ => false

/-- fmt.Sprintf at this format and these operands: a text; one answer is drawn. -/
theorem sprintf_run (F : Interp) (v : Nat) (x z : Int) (s : ByteArray) (W : World) (hF : F.answers W.tape) (h0 : W.cell? ⟨v, 0, none⟩ = some (.iface 3 (.int .i64 x))) (h1 : W.cell? ⟨v, 1, none⟩ = some (.iface 5 (.int .u8 z))) (h2 : W.cell? ⟨v, 2, none⟩ = some (.iface 9 (.string s))) :
    ∃ txt, (callFunc 25 #[.string ⟨#[98, 121, 116, 101, 32, 37, 100, 32, 105, 115, 32, 37, 113, 44, 32, 119, 104, 101, 114, 101, 32, 37, 115, 32, 115, 104, 111, 117, 108, 100, 32, 98, 101]⟩, .slice (some ⟨v, 0, none⟩) 3 3]).run Tryf.prog W = .ok (.value (.string txt)) W.drew := by
  have hF' := answers_open hF
  have k2 := fmtGuard
  have k3 := fmtA
  have k4 := fmtAr
  have k5 := op3_100
  have k6 := op5_113
  have k7 := op9_115
  refine ⟨FmtStop.textOf (F "fmt.Sprintf" [[98, 121, 116, 101, 32, 37, 100, 32, 105, 115, 32, 37, 113, 44, 32, 119, 104, 101, 114, 101, 32, 37, 115, 32, 115, 104, 111, 117, 108, 100, 32, 98, 101], shape3, digits 8 (x % 18446744073709551616).toNat, shape5, digits 8 (z % 18446744073709551616).toNat, shape9, FmtStop.pack s.data.toList] 0), ?_⟩
  rw [call25]
  go_simp

/-- The data ends: failEnd. -/
theorem syntax_end (b : Nat) (da : Option Addr) (n c : Nat) (pos : Nat) (base : Int) (err : Value) (sh : Bool) (pa : Value) (s : ByteArray) (w : World) (hn : n ≤ 1048576) (hs : s.size ≤ 65536) (hp : n ≤ pos) (he : err = .nilIface ∨ IsErr err) (h : Sc w b (.slice da n c) pos base err sh pa) :
    Calls Tryf.prog 22 #[.pointer (some ⟨b, 0, none⟩), .string s] w fun e w' => e = .returned (.tuple #[]) ∧ (∃ err', IsErr err' ∧ Sc w' b (.slice da n c) n base err' (sh || nilB err) pa) ∧ w.grownBy w' (some b) := by
  have c0 := h.c0
  have c1 := h.c1
  have HS : Hid (Sc w b (.slice da n c) pos base err sh pa) := h
  have hp' : (n : Int) ≤ (pos : Int) := by omega
  clear h
  rcases he with rfl | ⟨x, rfl⟩
  · go_enter Tryf.func22, Tryf.ntmps22
    go_wp2
    go_quiet (fail)
    go_wp2_with fail
    refine (failEnd_nil b da n c pos base sh pa _ (w.drewN _) hn ?_ (HS.out.of_block rfl)).mono ?_
    · rw [ByteArray.size_append, ByteArray.size_append]
      show 6 + s.size + 10 ≤ 1048576
      omega
    rintro e w' ⟨rfl, ⟨err', h1, h2⟩, h3⟩
    go_wp2
    refine bodyPost_ret (results_none rfl _ _ _) rfl ?_
    refine ⟨rfl, ⟨err', h1, ?_⟩, (grownBy_draws w _ _).trans h3⟩
    rw [show (sh || nilB .nilIface) = true by simp [nilB]]
    exact h2
  · go_enter Tryf.func22, Tryf.ntmps22
    go_wp2
    go_quiet (fail)
    go_wp2_with fail
    refine (failEnd_set b da n c pos base x sh pa _ (w.drewN _) hn ?_ (HS.out.of_block rfl)).mono ?_
    · rw [ByteArray.size_append, ByteArray.size_append]
      show 6 + s.size + 10 ≤ 1048576
      omega
    rintro e w' ⟨rfl, ⟨err', h1, h2⟩, h3⟩
    go_wp2
    refine bodyPost_ret (results_none rfl _ _ _) rfl ?_
    refine ⟨rfl, ⟨err', h1, ?_⟩, (grownBy_draws w _ _).trans h3⟩
    rw [show (sh || nilB (.iface 46 (.pointer (some x)))) = sh by simp [nilB]]
    exact h2

/-- A call of a function without a body, as one step of a region that draws its order. -/
theorem step_call_extern {P : Program} {ops : Array Oper} {o : Oper} {a : Act} {w w' : World} {K : Act → World → Prop} {Q : Exit → Act → World → Prop} {E : Prop} (hgd : o.guard = none) (f : FuncId) (s x : Operand) (dT sT : TypeId)
    (ho : o.op = .call { callee := .value (.func f), args := #[s, x], argTypes := #[dT, sT] }) (sv xv : Value) (hs : a.eval s = sv) (hx : a.eval x = xv) (v : Value)
    (hrun : (callFunc f #[sv, xv]).run P w = .ok (.value v) w')
    (h : K (a.put o.dst v) w') :
    if Region.wanted o (yielded ops a.tmps) = true then Oper.wp P o a w K Q else E := by
  have hw : Region.wanted o (yielded ops a.tmps) = true := by simp [Region.wanted, hgd]
  rw [if_pos hw]
  have he : a.eval (.func f) = .func (.func f) #[] #[] := rfl
  unfold Oper.wp
  simp [execOp, ho, resolve, invoke, Deferred.ofValue, he, hs, hx, hrun, Oper.upon]
  exact h

set_option maxHeartbeats 1000000 in
/-- A byte stands there: failAt with fmt's text. -/
theorem syntax_byte (F : Interp) (b : Nat) (db doff n c : Nat) (pos : Nat) (base z : Int) (err : Value) (sh : Bool) (pa : Value) (s : ByteArray) (w : World) (hF : F.answers w.tape) (hn : n ≤ 1048576) (hp : pos < n) (hdb : db ≠ b) (he : err = .nilIface ∨ IsErr err) (h : Sc w b (.slice (some ⟨db, doff, none⟩) n c) pos base err sh pa)
    (hz : w.cell? ⟨db, doff + pos, none⟩ = some (.int .u8 z)) :
    Calls Tryf.prog 22 #[.pointer (some ⟨b, 0, none⟩), .string s] w fun e w' => e = .returned (.tuple #[]) ∧ (∃ err', IsErr err' ∧ Sc w' b (.slice (some ⟨db, doff, none⟩) n c) pos base err' sh pa) ∧ w.grownBy w' (some b) := by
  have c0 := h.c0
  have c1 := h.c1
  have c2 := h.c2
  have hbl := h.lt
  have HS : Hid (Sc w b (.slice (some ⟨db, doff, none⟩) n c) pos base err sh pa ∧ F.answers w.tape ∧ (err = .nilIface ∨ IsErr err) ∧ w.cell? ⟨db, doff + pos, none⟩ = some (.int .u8 z)) := ⟨h, hF, he, hz⟩
  have hp' : ¬ (n : Int) ≤ (pos : Int) := by omega
  have hp0 : (0 : Int) ≤ (pos : Int) := by omega
  have hp1 : (pos : Int) < (n : Int) := by omega
  have n0 := World.new_ne w _ c0
  have n3 := World.new_ne w _ hz
  clear h he hF
  go_enter Tryf.func22, Tryf.ntmps22
  go_wp2
  go_quiet (fail)
  go_wp2
  obtain ⟨txt, hrun⟩ := sprintf_run F w.heap.size (IntKind.i64.wrap (base + (pos : Int))) z s ((w.drewN (nq + 1)).alloc (.cells #[.iface 3 (.int .i64 (IntKind.i64.wrap (base + (pos : Int)))), .iface 5 (.int .u8 z), .iface 9 (.string s)] 20)) HS.out.2.1
    (World.cell?_alloc_at _ _ _ _ rfl) (World.cell?_alloc_at _ _ _ _ rfl) (World.cell?_alloc_at _ _ _ _ rfl)
  have HR : Hid ((callFunc 25 #[.string ⟨#[98, 121, 116, 101, 32, 37, 100, 32, 105, 115, 32, 37, 113, 44, 32, 119, 104, 101, 114, 101, 32, 37, 115, 32, 115, 104, 111, 117, 108, 100, 32, 98, 101]⟩, .slice (some ⟨w.heap.size, 0, none⟩) 3 3]).run Tryf.prog ((w.drewN (nq + 1)).alloc (.cells #[.iface 3 (.int .i64 (IntKind.i64.wrap (base + (pos : Int)))), .iface 5 (.int .u8 z), .iface 9 (.string s)] 20)) = .ok (.value (.string txt)) ((w.drewN (nq + 1)).alloc (.cells #[.iface 3 (.int .i64 (IntKind.i64.wrap (base + (pos : Int)))), .iface 5 (.int .u8 z), .iface 9 (.string s)] 20)).drew) := hrun
  clear hrun
  go_region_held3 (fun w' => w'.cell? ⟨b, 0, none⟩ = some (.slice (some ⟨db, doff, none⟩) n c) ∧ w'.cell? ⟨b, 1, none⟩ = some (.int .i64 pos) ∧ w'.cell? ⟨b, 2, none⟩ = some (.int .i64 base) ∧ w'.cell? ⟨db, doff + pos, none⟩ = some (.int .u8 z)) (go_keep)
    (first
      | (refine step_call_extern (by rfl) 25 (.const (.string ⟨#[98, 121, 116, 101, 32, 37, 100, 32, 105, 115, 32, 37, 113, 44, 32, 119, 104, 101, 114, 101, 32, 37, 115, 32, 115, 104, 111, 117, 108, 100, 32, 98, 101]⟩)) (.tmp 47) 9 67 (by rfl) _ _ (by rfl) (by rfl) (.string txt) HR.out ?_)
      | (go_at_call 24; refine (failAt_any b _ pos base pos err sh pa txt (((w.drewN (nq + 1)).alloc _).drew) HS.out.2.2.1 (HS.out.1.of_block (Below.heap_alloc (w.drewN (nq + 1)) _ b hbl))).mono ?_; rintro e w5 ⟨rfl, ⟨err', he', hS'⟩, hg'⟩; have z0 := hS'.c0; have z1 := hS'.c1; have z2 := hS'.c2; have z3 := hg'.cell (a := ⟨db, doff + pos, none⟩) ((World.cell?_alloc_past _ _ _ (World.block_lt_of_cell? _ _ hz)).trans hz) (by simpa using hdb)))
  go_end0
  exact ⟨rfl, ⟨err', he', hS'⟩, (grownBy_drew ((grownBy_draws w (nq + 1) _).trans (World.grownBy_alloc _ _ _))).trans hg'⟩

/-- ZZfailSyntax: the place stands, an error is recorded, short is set where the data ends and no error was recorded. -/
theorem fail_any (F : Interp) (b : Nat) (da : Option Addr) (n c : Nat) (zs : List Int) (pos : Nat) (base : Int) (err : Value) (sh : Bool) (pa : Value) (s : ByteArray) (w : World) (hF : F.answers w.tape) (hz : zs.length = n) (hn : n ≤ 1048576) (hs : s.size ≤ 65536) (hp : pos ≤ n) (hda : Apart da b) (hS : SB w da zs) (he : err = .nilIface ∨ IsErr err) (h : Sc w b (.slice da n c) pos base err sh pa) :
    Calls Tryf.prog 10 #[.pointer (some ⟨b, 0, none⟩), .string s] w fun e w' => e = .returned (.tuple #[]) ∧ (∃ err', IsErr err' ∧ Sc w' b (.slice da n c) pos base err' (sh || (decide (pos = n) && nilB err)) pa) ∧ w.grownBy w' (some b) := by
  have HC : Hid (Calls Tryf.prog 22 #[.pointer (some ⟨b, 0, none⟩), .string s] w fun e w' => e = .returned (.tuple #[]) ∧ (∃ err', IsErr err' ∧ Sc w' b (.slice da n c) pos base err' (sh || (decide (pos = n) && nilB err)) pa) ∧ w.grownBy w' (some b)) := by
    by_cases hpn : pos = n
    · subst hpn
      simp only [decide_true, Bool.true_and]
      exact syntax_end b da pos c pos base err sh pa s w hn hs (Nat.le_refl _) he h
    · have e : (sh || (decide (pos = n) && nilB err)) = sh := by simp [hpn]
      rw [e]
      rcases hS with rfl | ⟨db, doff, rfl, hc⟩
      · simp at hz; omega
      · exact syntax_byte F b db doff n c pos base _ err sh pa s w hF hn (by omega) (hda _ rfl) he h (hc pos (by omega))
  clear hS he h hF
  go_enter Tryf.func10, Tryf.ntmps10
  go_wp2_with (go_at_call 22; refine Calls.mono HC.out ?_; rintro e w' ⟨rfl, hq1, hq2⟩)
  go_end0
  exact ⟨rfl, hq1, hq2⟩

end Go.Proofs.Qxb6618665aFmt
