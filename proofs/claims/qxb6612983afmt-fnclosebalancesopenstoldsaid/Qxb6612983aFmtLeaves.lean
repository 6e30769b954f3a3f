/-
  The small functions on the law's road, each by a contract: zzBytes (7), zzClone (8), ZZnewDecoder (9), ZZpos (10), ZZclose (12), ZZsetPos (13), ZZdepth (14), close (25).
-/
import Derived.Test.Qxb6612983aFmtRows
import Derived.Test.Qxb6612983aFmtPlain
import Derived.WalkKit
import Derived.WalkSpells
import Derived.Deep.LoopGhost
import Derived.Deep.OwnRows
namespace Go.Proofs.Qxb6612983aFmt
open Go.RowKit

theorem Tryf.info5 : (Tryf.prog.info? 5).map (fun i => (i.zero, i.size, i.bytes)) = some (some (.int .u8 0), 1, 1) := by kernel_rfl

/-- The n bytes X lie in the memory w where the slice 'ao' points. -/
def Lies (w : World) (ao : Option Addr) (b off n : Nat) (X : Nat → Int) : Prop :=
  (0 < n → ao = some ⟨b, off, none⟩) ∧ ∀ j, j < n → w.cell? ⟨b, off + j, none⟩ = some (.int .u8 (X j))

theorem Lies.lt {w : World} {ao : Option Addr} {b off n : Nat} {X : Nat → Int} (h : Lies w ao b off n X) (hn : 0 < n) : b < w.heap.size := World.block_lt_of_cell? _ _ (h.2 0 hn)
theorem Lies.below {w w' : World} {B : Nat} {ao : Option Addr} {b off n : Nat} {X : Nat → Int} (h : Lies w ao b off n X) (hB : w.heap.size ≤ B) (hb : Below B w w') : Lies w' ao b off n X :=
  ⟨h.1, fun j hj => by rw [hb.cell (p := ⟨b, off + j, none⟩) (Nat.lt_of_lt_of_le (h.lt (by omega)) hB)]; exact h.2 j hj⟩

/-- The decoder lies in block B: its data, its place, its depth; the place and the depth may be written. -/
structure Dec (w : World) (B : Nat) (v : Value) (p d : Int) : Prop where
  c0 : w.cell? ⟨B, 0, none⟩ = some v
  c1 : w.cell? ⟨B, 1, none⟩ = some (.int .i64 p)
  c2 : w.cell? ⟨B, 2, none⟩ = some (.int .i64 d)
  f1 : w.frozen? ⟨B, 1, none⟩ = false
  f2 : w.frozen? ⟨B, 2, none⟩ = false

theorem Dec.putPos {w : World} {B : Nat} {v : Value} {p d : Int} (h : Dec w B v p d) (q : Int) : Dec (w.setCell ⟨B, 1, none⟩ (.int .i64 q)) B v q d :=
  ⟨(World.cell?_setCell_other _ _ _ _ (by simp)).trans h.c0, World.cell?_setCell_same _ _ _ h.c1, (World.cell?_setCell_other _ _ _ _ (by simp)).trans h.c2, (World.frozen?_setCell _ _ _ _).trans h.f1, (World.frozen?_setCell _ _ _ _).trans h.f2⟩
theorem Dec.putDepth {w : World} {B : Nat} {v : Value} {p d : Int} (h : Dec w B v p d) (q : Int) : Dec (w.setCell ⟨B, 2, none⟩ (.int .i64 q)) B v p q :=
  ⟨(World.cell?_setCell_other _ _ _ _ (by simp)).trans h.c0, (World.cell?_setCell_other _ _ _ _ (by simp)).trans h.c1, World.cell?_setCell_same _ _ _ h.c2, (World.frozen?_setCell _ _ _ _).trans h.f1, (World.frozen?_setCell _ _ _ _).trans h.f2⟩
theorem Dec.drew {w : World} {B : Nat} {v : Value} {p d : Int} (h : Dec w B v p d) : Dec w.drew B v p d := ⟨h.c0, h.c1, h.c2, h.f1, h.f2⟩

theorem bel_set {B : Nat} {w w' : World} (h : Below B w w') (o : Nat) (u : Value) : Below B w (w'.setCell ⟨B, o, none⟩ u) := h.setCell (p := ⟨B, o, none⟩) (Nat.le_refl _) u

theorem row_step {wr : World} {B n k : Nat} {X : Nat → Int} (h : wr.rowIs B 5 n (fun i => if i < k then .int .u8 (X i) else .int .u8 0)) :
    (wr.setCell ⟨B, k, none⟩ (.int .u8 (X k))).rowIs B 5 n (fun i => if i < k + 1 then .int .u8 (X i) else .int .u8 0) := by
  refine (h.set k _).congr (fun i _ => ?_)
  by_cases e : i = k
  · subst e; simp
  · rw [if_neg e]
    by_cases hlt : i < k
    · rw [if_pos hlt, if_pos (by omega)]
    · rw [if_neg hlt, if_neg (by omega)]

set_option maxHeartbeats 400000 in
theorem bytes_yes (ao : Option Addr) (n cap : Nat) (p d : Int) (w : World) (hn : n ≤ 1048576) :
    Calls Tryf.prog 7 #[.slice ao n cap, .int .i64 p, .int .i64 d] w fun e w' => e = .returned (.bool true) ∧ w' = w := by
  go_enter Tryf.func7, Tryf.ntmps7
  go_wp2
  go_ret
  exact ⟨rfl, rfl⟩
set_option maxHeartbeats 400000 in
theorem bytes_no (ao : Option Addr) (n cap : Nat) (p d : Int) (w : World) (hn : 1048576 < n) :
    Calls Tryf.prog 7 #[.slice ao n cap, .int .i64 p, .int .i64 d] w fun e w' => e = .returned (.bool false) ∧ w' = w := by
  go_enter Tryf.func7, Tryf.ntmps7
  go_wp2
  go_ret
  exact ⟨rfl, rfl⟩
set_option maxHeartbeats 400000 in
theorem pos_any (B : Nat) (v : Value) (p d : Int) (w : World) (h : Dec w B v p d) :
    Calls Tryf.prog 10 #[.pointer (some ⟨B, 0, none⟩)] w fun e w' => e = .returned (.int .i64 p) ∧ w' = w := by
  obtain ⟨c0, c1, c2, f1, f2⟩ := h
  go_enter Tryf.func10, Tryf.ntmps10
  go_wp2
  go_ret
  exact ⟨rfl, rfl⟩
set_option maxHeartbeats 400000 in
theorem depth_any (B : Nat) (v : Value) (p d : Int) (w : World) (h : Dec w B v p d) :
    Calls Tryf.prog 14 #[.pointer (some ⟨B, 0, none⟩)] w fun e w' => e = .returned (.int .i64 d) ∧ w' = w := by
  obtain ⟨c0, c1, c2, f1, f2⟩ := h
  go_enter Tryf.func14, Tryf.ntmps14
  go_wp2
  go_ret
  exact ⟨rfl, rfl⟩
set_option maxHeartbeats 400000 in
theorem setPos_any (B : Nat) (v : Value) (p q d : Int) (w : World) (h : Dec w B v p d) :
    Calls Tryf.prog 13 #[.pointer (some ⟨B, 0, none⟩), .int .i64 q] w fun e w' => e = .returned (.tuple #[]) ∧ Dec w' B v q d ∧ Below B w w' := by
  have h' := h.putPos q
  obtain ⟨c0, c1, c2, f1, f2⟩ := h
  have H : Hid (Dec (w.setCell ⟨B, 1, none⟩ (.int .i64 q)) B v q d) := h'
  clear h'
  go_enter Tryf.func13, Tryf.ntmps13
  go_wp2
  go_end0
  exact ⟨rfl, H.out, bel_set (Below.refl _ _) _ _⟩
set_option maxHeartbeats 400000 in
theorem close_any (B : Nat) (v : Value) (p d : Int) (w : World) (h : Dec w B v p d) (hp : 0 ≤ p) (hp2 : p ≤ 2000000) (hd : -2000000000 ≤ d) (hd2 : d ≤ 20000) :
    Calls Tryf.prog 25 #[.pointer (some ⟨B, 0, none⟩)] w fun e w' => e = .returned (.tuple #[]) ∧ Dec w' B v (p + 1) (d - 1) ∧ Below B w w' := by
  have H : Hid (Dec ((w.setCell ⟨B, 2, none⟩ (.int .i64 (d - 1))).setCell ⟨B, 1, none⟩ (.int .i64 (p + 1))) B v (p + 1) (d - 1)) := (h.putDepth (d - 1)).putPos (p + 1)
  obtain ⟨c0, c1, c2, f1, f2⟩ := h
  go_enter Tryf.func25, Tryf.ntmps25
  go_wp2
  go_end0
  exact ⟨rfl, H.out, bel_set (bel_set (Below.refl _ _) _ _) _ _⟩
set_option maxHeartbeats 400000 in
theorem zclose_any (B : Nat) (v : Value) (p d : Int) (w : World) (h : Dec w B v p d) (hp : 0 ≤ p) (hp2 : p ≤ 2000000) (hd : -2000000000 ≤ d) (hd2 : d ≤ 20000) :
    Calls Tryf.prog 12 #[.pointer (some ⟨B, 0, none⟩)] w fun e w' => e = .returned (.tuple #[]) ∧ Dec w' B v (p + 1) (d - 1) ∧ Below B w w' := by
  go_enter Tryf.func12, Tryf.ntmps12
  go_wp2_with (go_at_call 25; refine (close_any B v p d _ h hp hp2 hd hd2).mono ?_; rintro e w' ⟨rfl, h', hb⟩)
  go_end0
  exact ⟨rfl, by assumption, by assumption⟩
set_option maxHeartbeats 400000 in
theorem new_any (ao : Option Addr) (n cap : Nat) (p d : Int) (w : World) :
    Calls Tryf.prog 9 #[.slice ao n cap, .int .i64 p, .int .i64 d] w fun e w' => e = .returned (.pointer (some ⟨w.heap.size, 0, none⟩)) ∧ Dec w' w.heap.size (.slice ao n cap) p d ∧ Below w.heap.size w w' ∧ w'.heap.size = w.heap.size + 1 := by
  go_enter Tryf.func9, Tryf.ntmps9
  go_wp2
  go_ret
  refine ⟨rfl, ⟨?_, ?_, ?_, ?_, ?_⟩, (Below.refl _ _).alloc (Nat.le_refl _) _, by simp⟩
  all_goals simp [go_sem]
set_option maxHeartbeats 400000 in
theorem clone_nil (w : World) :
    Calls Tryf.prog 8 #[.slice none 0 0] w fun e w' => e = .returned (.slice none 0 0) ∧ w' = w := by
  have hnil := fun wx => Lib.run_eql_slice_nil (P := Tryf.prog) wx 22 5 none 0 0 0 0 Tryf.underlying22
  go_enter Tryf.func8, Tryf.ntmps8
  go_wp2
  go_ret
  exact ⟨rfl, rfl⟩
set_option maxHeartbeats 400000 in
theorem clone_some (a : Addr) (b off n cap : Nat) (X : Nat → Int) (w : World) (hn : n ≤ 1048576) (hL : Lies w (some a) b off n X) :
    Calls Tryf.prog 8 #[.slice (some a) n cap] w fun e w' => e = .returned (.slice (some ⟨w.heap.size, 0, none⟩) n n) ∧ w'.rowIs w.heap.size 5 n (fun i => .int .u8 (X i)) ∧ Below w.heap.size w w' := by
  have hnil := fun wx => Lib.run_eql_slice_nil (P := Tryf.prog) wx 22 5 (some a) n cap 0 0 Tryf.underlying22
  have hmk := run_make_row' (P := Tryf.prog) 22 5 (.int .u8 0) 1 Tryf.underlying22 Tryf.info5 rfl .i64 .i64 n (by omega) (by omega)
  go_enter Tryf.func8, Tryf.ntmps8
  go_wp2
  clear hmk hnil
  go_loopg [4] n (fun g i wr => ∃ k : Nat, k ≤ n ∧ g = n - k ∧ i = .int .i64 k ∧ wr.rowIs w.heap.size 5 n (fun i => if i < k then .int .u8 (X i) else .int .u8 0) ∧ Below w.heap.size w wr)
  case atStart => exact ⟨0, Nat.zero_le _, rfl, rfl, (World.rowIs_made w (.int .u8 0) n 5).congr (fun i _ => by simp), (Below.refl _ _).alloc (Nat.le_refl _) _⟩
  case round =>
    obtain ⟨k, hk, rfl, rfl, hrow, hbel⟩ := hrel
    by_cases hlt : k < n
    · have hb := hL.lt (by omega)
      have ha := hL.1 (by omega)
      simp only [Option.some.injEq] at ha
      subst ha
      have c1 : wr.cell? ⟨b, off + k, none⟩ = some (.int .u8 (X k)) := (hbel.cell (p := ⟨b, off + k, none⟩) hb).trans (hL.2 k hlt)
      have c2 : wr.cell? ⟨w.heap.size, k, none⟩ = some (.int .u8 0) := by have := hrow.cell hlt; simpa using this
      have f2 := hrow.frozen k
      go_wp2
      go_roundg (n - (k + 1))
      case measure => omega
      case rel => exact ⟨k + 1, by omega, rfl, by go_num, row_step hrow, bel_set hbel _ _⟩
    · go_wp2
      go_ret
      exact ⟨rfl, hrow.congr (fun i hi => by rw [if_pos (by omega)]), hbel⟩
/-- zzClone: whatever slice of bytes: a copy in memory of the call's own (nil for nil). -/
theorem clone_any (ao : Option Addr) (b off n cap : Nat) (X : Nat → Int) (w : World) (hn : n ≤ 1048576) (hz : ao = none → n = 0 ∧ cap = 0) (hL : Lies w ao b off n X) :
    Calls Tryf.prog 8 #[.slice ao n cap] w fun e w' => ∃ ao' b' off' cap', e = .returned (.slice ao' n cap') ∧ (ao' = none → n = 0 ∧ cap' = 0) ∧ Lies w' ao' b' off' n X ∧ Below w.heap.size w w' := by
  cases ao with
  | none =>
    obtain ⟨rfl, rfl⟩ := hz rfl
    refine (clone_nil w).mono ?_
    rintro e w' ⟨rfl, rfl⟩
    exact ⟨none, 0, 0, 0, rfl, fun _ => ⟨rfl, rfl⟩, ⟨fun h => absurd h (Nat.lt_irrefl _), fun j hj => absurd hj (Nat.not_lt_zero _)⟩, Below.refl _ _⟩
  | some a =>
    refine (clone_some a b off n cap X w hn hL).mono ?_
    rintro e w' ⟨rfl, hrow, hbel⟩
    refine ⟨some ⟨w.heap.size, 0, none⟩, w.heap.size, 0, n, rfl, (fun h => by cases h), ⟨fun _ => rfl, fun j hj => ?_⟩, hbel⟩
    rw [Nat.zero_add]
    exact hrow.cell hj
end Go.Proofs.Qxb6612983aFmt
