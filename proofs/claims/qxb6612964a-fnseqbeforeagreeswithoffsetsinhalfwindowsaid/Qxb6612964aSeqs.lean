/-
  The callees of both laws of this seat, each by a contract: seqBefore (7), ZZseqBefore (5), zzAheadWithinHalf (6). And the plain law: no Go in sight.
-/
import Derived.Test.Qxb6612964aRows
import Derived.WalkKit
import Derived.ProofKit
namespace Go.Proofs.Qxb6612964a.seqs
open Go.ChangeShapes Go.WideShapes Go.ChangeAt Go.RowKit

/-- 'a comes before b': a - b, taken modulo 2^32, has its top bit set. -/
def bef (a b : Int) : Bool := decide (2147483648 ≤ (a - b) % 4294967296)
/-- 'd lies in 1 .. 2^31'. -/
def ahd (d : Int) : Bool := decide (1 ≤ d ∧ d ≤ 2147483648)

theorem ret_bool {a b : Bool} (h : a = b) : Ending.returned (.bool a) = .returned (.bool b) := by rw [h]

/-! ### The plain laws -/
theorem bef_wrap (a b : Int) : decide (wrap32 ((a - b) % 4294967296) < 0) = bef a b := by
  unfold bef wrap32
  rw [Bool.eq_iff_iff, decide_eq_true_iff, decide_eq_true_iff]
  omega
theorem bef_ahd (a b : Int) : bef a b = ahd ((b - a) % 4294967296) := by
  unfold bef ahd
  rw [Bool.eq_iff_iff, decide_eq_true_iff, decide_eq_true_iff]
  omega
theorem bef_off (a x y : Int) (hx0 : 0 ≤ x) (hx : x < 2147483648) (hy0 : 0 ≤ y) (hy : y < 2147483648) :
    bef ((a + x) % 4294967296) ((a + y) % 4294967296) = decide (x < y) := by
  unfold bef
  rw [Bool.eq_iff_iff, decide_eq_true_iff, decide_eq_true_iff]
  omega

/-! ### The walks -/
set_option maxHeartbeats 400000 in
theorem seq_any (a b : Int) (w : World) :
    Calls Try.prog 7 #[.int .u32 a, .int .u32 b] w fun e w' => e = .returned (.bool (bef a b)) ∧ w' = w := by
  go_enter Try.func7, Try.ntmps7
  go_wp2
  go_ret
  exact ⟨ret_bool (bef_wrap a b), rfl⟩
set_option maxHeartbeats 400000 in
theorem zzseq_any (a b : Int) (w : World) :
    Calls Try.prog 5 #[.int .u32 a, .int .u32 b] w fun e w' => e = .returned (.bool (bef a b)) ∧ w' = w := by
  go_enter Try.func5, Try.ntmps5
  go_wp2_with (go_at_call 7; refine (seq_any _ _ _).mono ?_; rintro e w' ⟨rfl, rfl⟩)
  go_ret
  exact ⟨rfl, rfl⟩
set_option maxHeartbeats 400000 in
theorem ahead_any (d : Int) (w : World) :
    Calls Try.prog 6 #[.int .u32 d] w fun e w' => e = .returned (.bool (ahd d)) ∧ w' = w := by
  by_cases h : 1 ≤ d
  · go_enter Try.func6, Try.ntmps6
    go_wp2
    go_ret
    exact ⟨ret_bool (by unfold ahd; simp [h]), rfl⟩
  · go_enter Try.func6, Try.ntmps6
    go_wp2
    go_ret
    exact ⟨ret_bool (by unfold ahd; exact (decide_eq_false (by omega)).symm), rfl⟩
end Go.Proofs.Qxb6612964a.seqs
