/-
  NewInput over bytes.NewReader; the small getters.
-/
import Derived.Test.Qxb6618665aDoorHoldA
namespace Go.Proofs.Qxb6618665aDoor
open Go.RowKit
set_option linter.unusedVariables false

theorem eof_any (b : Nat) (v : Bool) (w : World) (h : w.cell? ⟨b, 2, none⟩ = some (.bool v)) :
    Calls Tryd.prog 10 #[.pointer (some ⟨b, 0, none⟩)] w fun e w' => e = .returned (.bool v) ∧ w' = w := by
  go_enter Tryd.func10, Tryd.ntmps10
  go_wp2
  go_ret
  exact ⟨rfl, rfl⟩

theorem held_any (b : Nat) (v : Value) (w : World) (h : w.cell? ⟨b, 1, none⟩ = some v) :
    Calls Tryd.prog 12 #[.pointer (some ⟨b, 0, none⟩)] w fun e w' => e = .returned v ∧ w' = w := by
  go_enter Tryd.func12, Tryd.ntmps12
  go_wp2
  go_ret
  exact ⟨rfl, rfl⟩

theorem bytes_ok (a : Option Addr) (n c : Nat) (x y : Int) (w : World) (hn : n ≤ 1048576) :
    Calls Tryd.prog 5 #[.slice a n c, .int .i64 x, .int .i64 y] w fun e w' => e = .returned (.bool true) ∧ w' = w := by
  go_enter Tryd.func5, Tryd.ntmps5
  go_wp2
  go_ret
  exact ⟨rfl, rfl⟩

theorem bytes_ok2 (a : Option Addr) (n c : Nat) (x y : Int) (w : World) (hn : n ≤ 1048576) :
    Calls Tryd.prog 13 #[.slice a n c, .int .i64 x, .int .i64 y] w fun e w' => e = .returned (.bool true) ∧ w' = w := by
  go_enter Tryd.func13, Tryd.ntmps13
  go_wp2
  go_ret
  exact ⟨rfl, rfl⟩

/-- max(held, 1). -/
def room (held : Int) : Nat := if held < 1 then 1 else held.toNat

theorem room_any (held : Int) (w : World) : Calls Tryd.prog 9 #[.int .i64 held] w fun e w' => e = .returned (.int .i64 (room held)) ∧ w' = w := by
  by_cases h : held < 1
  · go_enter Tryd.func9, Tryd.ntmps9
    go_wp2
    go_ret
    exact ⟨by simp [room, h], rfl⟩
  · go_enter Tryd.func9, Tryd.ntmps9
    go_wp2
    go_ret
    have e : ((room held : Nat) : Int) = held := by unfold room; rw [if_neg (by omega)]; omega
    exact ⟨by rw [e]; rfl, rfl⟩

theorem make_room (c : Nat) (hc : c ≤ 1048576) (w : World) : (Instr.makeSlice 22 (.int .i64 0) (.int .i64 (c : Int))).run Tryd.prog w =
    .ok (.slice (some ⟨w.heap.size, 0, none⟩) 0 c) (w.alloc (.cells ((zeroRow c).map (Value.int .u8)).toArray 5)) := by
  obtain ⟨i, hi, hz, hs, hb⟩ := info_parts Tryd.info5
  have := run_make (P := Tryd.prog) w 22 5 i (.int .u8 0) Tryd.underlying22 hi hz .i64 .i64 0 (c : Int) (by omega) (by omega) (by rw [hb]; omega) (by omega)
  rw [this, hs]
  have e2 : (c : Int).toNat = c := by omega
  rw [e2, Nat.mul_one]
  have e3 : (Value.int .u8 0).cells = #[Value.int .u8 0] := rfl
  rw [e3, madeCells_u8]
  rfl

theorem reader_any (fa : Option Addr) (n : Nat) (w : World) :
    Calls Tryd.prog 15 #[.slice fa n n] w fun e w' => e = .returned (.pointer (some ⟨w.heap.size, 0, none⟩)) ∧ w' = w.alloc (.cells #[.slice fa n n, .int .i64 0, .int .i64 (-1)] 45) := by
  go_enter Tryd.func15, Tryd.ntmps15
  go_wp2
  go_ret
  exact ⟨rfl, rfl⟩

theorem input_any (held : Int) (r : Value) (w : World) (hh : held ≤ 65536) :
    Calls Tryd.prog 14 #[.iface 33 r, .int .i64 held] w fun e w' => e = .returned (.pointer (some ⟨w.heap.size + 1, 0, none⟩)) ∧
      w' = (w.alloc (.cells ((zeroRow (room held)).map (Value.int .u8)).toArray 5)).alloc (.cells #[.iface 33 r, .slice (some ⟨w.heap.size, 0, none⟩) 0 (room held), .bool false, .nilIface] 40) := by
  by_cases h : held < 1
  · have e : room held = 1 := by simp [room, h]
    rw [e]
    have hmk := make_room 1 (by omega)
    simp only [Int.natCast_one] at hmk
    go_enter Tryd.func14, Tryd.ntmps14
    go_wp2
    go_ret
    exact ⟨rfl, rfl⟩
  · obtain ⟨c, hc⟩ : ∃ c : Nat, held = c := ⟨held.toNat, by omega⟩
    subst hc
    have e : room (c : Int) = c := by simp only [room]; rw [if_neg h]; omega
    rw [e]
    have hmk := make_room c (by omega)
    have h' : (1 : Int) ≤ (c : Int) := by omega
    go_enter Tryd.func14, Tryd.ntmps14
    go_wp2
    go_ret
    exact ⟨rfl, rfl⟩

theorem cell_at {w : World} {b o : Nat} {c : Array Value} {t : TypeId} (h : w.heap[b]? = some (.cells c t (0, 0))) : w.cell? ⟨b, o, none⟩ = c[o]? := cell_of_row w b o c t (0, 0) h
theorem frozen_at {w : World} {b : Nat} {c : Array Value} {t : TypeId} (h : w.heap[b]? = some (.cells c t (0, 0))) (o : Nat) : w.frozen? ⟨b, o, none⟩ = false := by simp [World.frozen?, h]

theorem new_any (held : Int) (fa : Option Addr) (n : Nat) (zs : List Int) (B : Nat) (a0 a1 : Addr) (w : World) (hh : held ≤ 65536) (hN : zs.length = n) (hn : n ≤ 65536) (hE : Env w B a0 a1) (hS : SB w fa zs) (hB : B = w.heap.size) (hd : ∀ x, fa = some x → x.block < w.heap.size) :
    Calls Tryd.prog 7 #[.slice fa n n, .int .i64 held] w fun e w' => e = .returned (.pointer (some ⟨w.heap.size + 2, 0, none⟩)) ∧
      St w' B a0 a1 (w.heap.size + 2) w.heap.size (w.heap.size + 1) 0 (zeroRow (room held)) 0 false fa zs ∧ Below B w w' := by
  have HI := fun w => input_any held (.pointer (some ⟨w.heap.size - 1, 0, none⟩)) w hh
  obtain ⟨r, hr⟩ : ∃ r, r = room held := ⟨_, rfl⟩
  have HF : Hid (∀ o1 o2 o3, o1 = Obj.cells #[.slice fa n n, .int .i64 0, .int .i64 (-1)] 45 → o2 = Obj.cells ((zeroRow (room held)).map (Value.int .u8)).toArray 5 → o3 = Obj.cells #[.iface 33 (.pointer (some ⟨w.heap.size, 0, none⟩)), .slice (some ⟨w.heap.size + 1, 0, none⟩) 0 (room held), .bool false, .nilIface] 40 →
      St (((w.alloc o1).alloc o2).alloc o3) B a0 a1 (w.heap.size + 2) w.heap.size (w.heap.size + 1) 0 (zeroRow (room held)) 0 false fa zs ∧ Below B w (((w.alloc o1).alloc o2).alloc o3)) := by
    intro o1 o2 o3 e1 e2 e3
    have bl : Below B w (((w.alloc o1).alloc o2).alloc o3) := (((Below.refl B w).alloc (by omega) o1).alloc (by simp; omega) o2).alloc (by simp; omega) o3
    have fr : Fr [] w (((w.alloc o1).alloc o2).alloc o3) := (((Fr.refl [] w).alloc o1).alloc o2).alloc o3
    have h1 : (((w.alloc o1).alloc o2).alloc o3).heap[w.heap.size]? = some o1 := by
      rw [Below.heap_alloc _ _ _ (by simp; omega), Below.heap_alloc _ _ _ (by simp)]; exact heap_alloc_new w o1
    have h2 : (((w.alloc o1).alloc o2).alloc o3).heap[w.heap.size + 1]? = some o2 := by
      rw [Below.heap_alloc _ _ _ (by simp)]
      have := heap_alloc_new (w.alloc o1) o2
      simpa using this
    have h3 : (((w.alloc o1).alloc o2).alloc o3).heap[w.heap.size + 2]? = some o3 := by
      have := heap_alloc_new ((w.alloc o1).alloc o2) o3
      simpa using this
    have hrl : 1 ≤ room held ∧ room held ≤ 65536 := by unfold room; split <;> omega
    subst e1; subst e2; subst e3
    refine ⟨⟨hE.fr fr (by simp), ⟨?_, ?_, ?_, ?_, fun k => ?_⟩, ⟨?_, ?_, ⟨-1, ?_⟩, fun k => ?_⟩, h2, hS.fr fr (by simp), by omega, by omega, by omega, by omega, by omega, by omega, fun x hx => ?_, fun x hx => ?_, fun x hx => ?_, (fun x hx => Nat.lt_of_lt_of_le (hd x hx) fr.size), by omega, by rw [zeroRow_length]; omega, by rw [zeroRow_length]; omega, by omega, by omega⟩, bl⟩
    · rw [cell_at h3]; rfl
    · rw [cell_at h3, zeroRow_length]; rfl
    · rw [cell_at h3]; rfl
    · rw [cell_at h3]; rfl
    · exact frozen_at h3 k
    · rw [cell_at h1, hN]; rfl
    · rw [cell_at h1]; rfl
    · rw [cell_at h1]; rfl
    · exact frozen_at h1 k
    all_goals (have := hd x hx; omega)
  clear hE hS hd HI
  go_enter Tryd.func7, Tryd.ntmps7
  go_wp2_with (first
    | (go_at_call 15; refine (reader_any _ _ _).mono ?_; rintro e w' ⟨rfl, rfl⟩)
    | (go_at_call 14; refine (input_any held _ _ hh).mono ?_; rintro e w' ⟨rfl, rfl⟩))
  go_ret
  have := HF.out _ _ _ rfl rfl rfl
  simp at this ⊢
  exact this

end Go.Proofs.Qxb6618665aDoor
