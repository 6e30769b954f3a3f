/-
  The detector's functions on the law's road, each by a contract: ZZnewDetector (11), ZZsetClock (12), begin (22), ZZbegin (13), ZZnow (14), ZZself (15), ZZtimeout (16), ZZlost (17), ZZpendingSince (18).
-/
import Derived.Test.Qxb6613066aRows
import Derived.WalkKit
import Derived.WalkSpells
import Derived.ProofKit
import Derived.Laws.EntriesVeiled
namespace Go.Proofs.Qxb6613066a
open Go.RowKit

/-- The detector in block B: its self, timeout, clock, now, lost, pendingSince; the clock and now may be written. -/
structure Det (w : World) (B : Nat) (me timeout : Int) (clk : Value) (now lost since : Int) : Prop where
  c0 : w.cell? ⟨B, 0, none⟩ = some (.int .i64 me)
  c1 : w.cell? ⟨B, 1, none⟩ = some (.int .i64 timeout)
  c2 : w.cell? ⟨B, 2, none⟩ = some clk
  c4 : w.cell? ⟨B, 4, none⟩ = some (.int .i64 now)
  c6 : w.cell? ⟨B, 6, none⟩ = some (.int .i64 since)
  c15 : w.cell? ⟨B, 15, none⟩ = some (.int .u64 lost)
  f2 : w.frozen? ⟨B, 2, none⟩ = false
  f4 : w.frozen? ⟨B, 4, none⟩ = false

/-- The clock that ZZsetClock lays: the closure over the variable in block C. -/
abbrev clock (C : Nat) : Value := .func (Fn.func 21) #[] #[.pointer (some ⟨C, 0, none⟩)]

theorem Det.putClock {w : World} {B : Nat} {me timeout : Int} {clk : Value} {now lost since : Int} (h : Det w B me timeout clk now lost since) (k : Value) : Det (w.setCell ⟨B, 2, none⟩ k) B me timeout k now lost since :=
  ⟨(World.cell?_setCell_other _ _ _ _ (by simp)).trans h.c0, (World.cell?_setCell_other _ _ _ _ (by simp)).trans h.c1, World.cell?_setCell_same _ _ _ h.c2, (World.cell?_setCell_other _ _ _ _ (by simp)).trans h.c4, (World.cell?_setCell_other _ _ _ _ (by simp)).trans h.c6, (World.cell?_setCell_other _ _ _ _ (by simp)).trans h.c15, (World.frozen?_setCell _ _ _ _).trans h.f2, (World.frozen?_setCell _ _ _ _).trans h.f4⟩
theorem Det.putNow {w : World} {B : Nat} {me timeout : Int} {clk : Value} {now lost since : Int} (h : Det w B me timeout clk now lost since) (t : Int) : Det (w.setCell ⟨B, 4, none⟩ (.int .i64 t)) B me timeout clk t lost since :=
  ⟨(World.cell?_setCell_other _ _ _ _ (by simp)).trans h.c0, (World.cell?_setCell_other _ _ _ _ (by simp)).trans h.c1, (World.cell?_setCell_other _ _ _ _ (by simp)).trans h.c2, World.cell?_setCell_same _ _ _ h.c4, (World.cell?_setCell_other _ _ _ _ (by simp)).trans h.c6, (World.cell?_setCell_other _ _ _ _ (by simp)).trans h.c15, (World.frozen?_setCell _ _ _ _).trans h.f2, (World.frozen?_setCell _ _ _ _).trans h.f4⟩
theorem Det.alloc {w : World} {B : Nat} {me timeout : Int} {clk : Value} {now lost since : Int} (h : Det w B me timeout clk now lost since) (c : Array Value) (t : TypeId) : Det (w.alloc (.cells c t)) B me timeout clk now lost since := by
  have hB : B < w.heap.size := World.block_lt_of_cell? _ _ h.c0
  exact ⟨(World.cell?_alloc_past _ _ _ hB).trans h.c0, (World.cell?_alloc_past _ _ _ hB).trans h.c1, (World.cell?_alloc_past _ _ _ hB).trans h.c2, (World.cell?_alloc_past _ _ _ hB).trans h.c4, (World.cell?_alloc_past _ _ _ hB).trans h.c6, (World.cell?_alloc_past _ _ _ hB).trans h.c15, (frozen?_alloc_cells _ _ _ _).trans h.f2, (frozen?_alloc_cells _ _ _ _).trans h.f4⟩

set_option maxHeartbeats 400000 in
theorem new_any (a0 a1 a2 a3 a4 : Int) (w : World) :
    Calls Try.prog 11 #[.int .i64 a0, .int .i64 a1, .int .i64 a2, .int .u64 a3, .int .i64 a4] w fun e w' => e = .returned (.pointer (some ⟨w.heap.size, 0, none⟩)) ∧ Det w' w.heap.size a0 a1 .nilFunc a2 a3 a4 ∧ Grown w w' := by
  go_enter Try.func11, Try.ntmps11
  go_wp2
  go_ret
  refine ⟨rfl, ⟨?_, ?_, ?_, ?_, ?_, ?_, ?_, ?_⟩, (Grown.refl _).alloc _ _⟩
  all_goals simp [go_sem]
set_option maxHeartbeats 400000 in
theorem clock_any (C : Nat) (t : Int) (w : World) (hc : w.cell? ⟨C, 0, none⟩ = some (.int .i64 t)) :
    Calls Try.prog 21 #[.pointer (some ⟨C, 0, none⟩)] w fun e w' => e = .returned (.int .i64 t) ∧ w' = w := by
  go_enter Try.func21, Try.ntmps21
  go_wp2
  go_ret
  exact ⟨rfl, rfl⟩
set_option maxHeartbeats 400000 in
theorem setClock_any (B : Nat) (a0 a1 : Int) (clk : Value) (a2 a3 a4 t : Int) (w : World) (h : Det w B a0 a1 clk a2 a3 a4) :
    Calls Try.prog 12 #[.pointer (some ⟨B, 0, none⟩), .int .i64 t] w fun e w' => e = .returned (.tuple #[]) ∧ ∃ C, Det w' B a0 a1 (clock C) a2 a3 a4 ∧ w'.cell? ⟨C, 0, none⟩ = some (.int .i64 t) ∧ ∀ W, Grown W w → W.heap.size ≤ B → Grown W w' := by
  have hB : B < w.heap.size := World.block_lt_of_cell? _ _ h.c0
  have HD : Hid (Det ((w.setCell ⟨B, 2, none⟩ (clock w.heap.size)).alloc (.cells #[.int .i64 t] 2)) B a0 a1 (clock w.heap.size) a2 a3 a4) := (h.putClock _).alloc _ _
  have HC : Hid (((w.setCell ⟨B, 2, none⟩ (clock w.heap.size)).alloc (.cells #[.int .i64 t] 2)).cell? ⟨w.heap.size, 0, none⟩ = some (.int .i64 t)) := by
    show _ = _
    rw [World.cell?_alloc_at _ _ _ _ (by simp [World.setCell])]
    rfl
  obtain ⟨c0, c1, c2, c4, c6, c15, f2, f4⟩ := h
  go_enter Try.func12, Try.ntmps12
  go_wp2
  go_end0
  exact ⟨rfl, w.heap.size, HD.out, HC.out, fun W hW hle => (hW.setCell (a := ⟨B, 2, none⟩) hle _).alloc _ _⟩

theorem neq_clock (C : Nat) (w : World) : (binOp .neq 43 (.func (Fn.func 21) #[] #[.pointer (some ⟨C, 0, none⟩)]) .nilFunc).run Try.prog w = .ok (.bool true) w := by kernel_rfl

set_option maxHeartbeats 400000 in
theorem begin_any (B C : Nat) (a0 a1 a2 a3 a4 t : Int) (w : World) (h : Det w B a0 a1 (clock C) a2 a3 a4) (hc : w.cell? ⟨C, 0, none⟩ = some (.int .i64 t)) :
    Calls Try.prog 22 #[.pointer (some ⟨B, 0, none⟩)] w fun e w' => e = .returned (.tuple #[]) ∧ w' = w.setCell ⟨B, 4, none⟩ (.int .i64 t) := by
  obtain ⟨c0, c1, c2, c4, c6, c15, f2, f4⟩ := h
  unfold clock at c2
  have hne := neq_clock C
  go_enter Try.func22, Try.ntmps22
  go_wp2_with (go_at_call 21; refine (clock_any C t _ (by assumption)).mono ?_; rintro e w' ⟨rfl, hw⟩; obtain rfl : w = w' := hw.symm)
  go_end0
  exact ⟨rfl, rfl⟩
set_option maxHeartbeats 400000 in
theorem zbegin_any (B C : Nat) (a0 a1 a2 a3 a4 t : Int) (w : World) (h : Det w B a0 a1 (clock C) a2 a3 a4) (hc : w.cell? ⟨C, 0, none⟩ = some (.int .i64 t)) :
    Calls Try.prog 13 #[.pointer (some ⟨B, 0, none⟩)] w fun e w' => e = .returned (.tuple #[]) ∧ Det w' B a0 a1 (clock C) t a3 a4 ∧ w'.cell? ⟨C, 0, none⟩ = some (.int .i64 t) ∧ ∀ W, Grown W w → W.heap.size ≤ B → Grown W w' := by
  go_enter Try.func13, Try.ntmps13
  go_wp2_with fail
  refine (begin_any B C a0 a1 a2 a3 a4 t _ h hc).mono ?_
  rintro e w' ⟨rfl, rfl⟩
  have HD : Hid (Det (w.setCell ⟨B, 4, none⟩ (.int .i64 t)) B a0 a1 (clock C) t a3 a4) := h.putNow t
  have HC : Hid ((w.setCell ⟨B, 4, none⟩ (.int .i64 t)).cell? ⟨C, 0, none⟩ = some (.int .i64 t)) := (World.cell?_setCell_other _ _ _ _ (by simp)).trans hc
  clear h hc
  go_wp2
  go_end0
  exact ⟨rfl, HD.out, HC.out, fun W hW hle => hW.setCell (a := ⟨B, 4, none⟩) hle _⟩
set_option maxHeartbeats 400000 in
theorem now_any (B : Nat) (a0 a1 : Int) (clk : Value) (a2 a3 a4 : Int) (w : World) (h : Det w B a0 a1 clk a2 a3 a4) :
    Calls Try.prog 14 #[.pointer (some ⟨B, 0, none⟩)] w fun e w' => e = .returned (.int .i64 a2) ∧ w' = w := by
  obtain ⟨c0, c1, c2, c4, c6, c15, f2, f4⟩ := h
  go_enter Try.func14, Try.ntmps14
  go_wp2
  go_ret
  exact ⟨rfl, rfl⟩
set_option maxHeartbeats 400000 in
theorem self_any (B : Nat) (a0 a1 : Int) (clk : Value) (a2 a3 a4 : Int) (w : World) (h : Det w B a0 a1 clk a2 a3 a4) :
    Calls Try.prog 15 #[.pointer (some ⟨B, 0, none⟩)] w fun e w' => e = .returned (.int .i64 a0) ∧ w' = w := by
  obtain ⟨c0, c1, c2, c4, c6, c15, f2, f4⟩ := h
  go_enter Try.func15, Try.ntmps15
  go_wp2
  go_ret
  exact ⟨rfl, rfl⟩
set_option maxHeartbeats 400000 in
theorem timeout_any (B : Nat) (a0 a1 : Int) (clk : Value) (a2 a3 a4 : Int) (w : World) (h : Det w B a0 a1 clk a2 a3 a4) :
    Calls Try.prog 16 #[.pointer (some ⟨B, 0, none⟩)] w fun e w' => e = .returned (.int .i64 a1) ∧ w' = w := by
  obtain ⟨c0, c1, c2, c4, c6, c15, f2, f4⟩ := h
  go_enter Try.func16, Try.ntmps16
  go_wp2
  go_ret
  exact ⟨rfl, rfl⟩
set_option maxHeartbeats 400000 in
theorem lost_any (B : Nat) (a0 a1 : Int) (clk : Value) (a2 a3 a4 : Int) (w : World) (h : Det w B a0 a1 clk a2 a3 a4) :
    Calls Try.prog 17 #[.pointer (some ⟨B, 0, none⟩)] w fun e w' => e = .returned (.int .u64 a3) ∧ w' = w := by
  obtain ⟨c0, c1, c2, c4, c6, c15, f2, f4⟩ := h
  go_enter Try.func17, Try.ntmps17
  go_wp2
  go_ret
  exact ⟨rfl, rfl⟩
set_option maxHeartbeats 400000 in
theorem since_any (B : Nat) (a0 a1 : Int) (clk : Value) (a2 a3 a4 : Int) (w : World) (h : Det w B a0 a1 clk a2 a3 a4) :
    Calls Try.prog 18 #[.pointer (some ⟨B, 0, none⟩)] w fun e w' => e = .returned (.int .i64 a4) ∧ w' = w := by
  obtain ⟨c0, c1, c2, c4, c6, c15, f2, f4⟩ := h
  go_enter Try.func18, Try.ntmps18
  go_wp2
  go_ret
  exact ⟨rfl, rfl⟩
end Go.Proofs.Qxb6613066a
