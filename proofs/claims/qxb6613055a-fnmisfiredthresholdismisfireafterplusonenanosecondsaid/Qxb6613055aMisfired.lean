/-
  (Job).Misfired (6); ZZmisfired (5).
-/
import Derived.Test.Qxb6613055aSub
namespace Go.Proofs.Qxb6613055a
open Go.RowKit

/-- A Job whose only set field is MisfireAfter. -/
abbrev jb (es : ByteArray) (a : Int) : Value := .agg #[.int .i64 0, .string es, .pointer none, .pointer none, .string es, .int .u64 0, .int .i64 0, .pointer none, .int .u64 0, .int .i64 0, .pointer none, .int .u64 0, .int .i64 0, .pointer none, .bool false,
  .int .u64 0, .int .i64 0, .pointer none, .int .u64 0, .int .i64 0, .pointer none, .int .i64 0, .int .i64 a, .bool false, .int .u64 0, .int .i64 0, .pointer none, .int .i64 0, .int .i64 0, .int .i64 0, .int .i64 0]

theorem bcell {W w1 : World} (hb : Below W.heap.size W w1) : (∀ b o, b < W.heap.size → w1.cell? ⟨b, o, none⟩ = W.cell? ⟨b, o, none⟩) :=
  fun b o h => hb.cell (p := ⟨b, o, none⟩) h

theorem Ok.trans {w w1 w2 : World} (h : Ok w w1) (k : Ok w1 w2) : Ok w w2 :=
  ⟨⟨World.keptBut_trans h.grown.1 k.grown.1, fun a => (k.grown.2.1 a).trans (h.grown.2.1 a), Nat.le_trans h.grown.2.2 k.grown.2.2⟩, h.below.trans (k.below.mono h.below.size)⟩

set_option maxHeartbeats 2000000 in
theorem misfired_any (es : ByteArray) (a st xt su xu D : Int) (w : World) (a0 : 0 ≤ xt) (a1 : xt < 1000000000) (b0 : 0 ≤ xu) (b1 : xu < 1000000000) (st0 : -10000000000 ≤ st) (st1 : st ≤ 10000000000) (su0 : -10000000000 ≤ su) (su1 : su ≤ 10000000000)
    (hD : Hid ((st - su) * 1000000000 + (xt - xu) = D ∧ -9223372036854775808 ≤ D ∧ D ≤ 9223372036854775807)) :
    Calls Try.prog 6 #[jb es a, tm su xu, tm st xt] w fun e w' => e = .returned (.bool (decide (a < D))) ∧ Ok w w' := by
  unfold tm jb
  go_enter Try.func6, Try.ntmps6
  go_wp2_with fail
  go_region_held3 (fun w' => w'.cell? ⟨w.heap.size, 22, none⟩ = some (.int .i64 a) ∧ w'.cell? ⟨w.heap.size + 1 + 1, 0, none⟩ = some (.int .u64 xt) ∧ w'.cell? ⟨w.heap.size + 1 + 1, 1, none⟩ = some (.int .i64 st) ∧ w'.cell? ⟨w.heap.size + 1 + 1, 2, none⟩ = some (.pointer none) ∧ w'.cell? ⟨w.heap.size + 1, 0, none⟩ = some (.int .u64 xu) ∧ w'.cell? ⟨w.heap.size + 1, 1, none⟩ = some (.int .i64 su) ∧ w'.cell? ⟨w.heap.size + 1, 2, none⟩ = some (.pointer none)) (simp [go_sem, World.cell?_alloc_past, *])
    (first
      | (go_at_call 8; refine (sub_any st xt su xu D _ a0 a1 b0 b1 st0 st1 su0 su1 hD).mono ?_; rintro e w' ⟨rfl, hok⟩; have hc := bcell hok.below))
  go_wp2
  go_ret
  exact ⟨rfl, (Ok.drew ((((Ok.refl w).alloc _ _).alloc _ _).alloc _ _)).trans hok⟩

/-- d nanoseconds since the zero time: the seconds, the nanoseconds within the second. -/
def sc (d : Int) : Int := d / 1000000000
def ns (d : Int) : Int := d % 1000000000
/-- d fits an int64. -/
def Fits (d : Int) : Prop := -9223372036854775808 ≤ d ∧ d ≤ 9223372036854775807

theorem ns_lo (d : Int) : 0 ≤ ns d := by unfold ns; omega
theorem ns_hi (d : Int) : ns d < 1000000000 := by unfold ns; omega
theorem sc_lo {d : Int} (h : Fits d) : -10000000000 ≤ sc d := by unfold sc; unfold Fits at h; omega
theorem sc_hi {d : Int} (h : Fits d) : sc d ≤ 10000000000 := by unfold sc; unfold Fits at h; omega
theorem sc_ns (d : Int) : sc d * 1000000000 + ns d = 0 * 1000000000 + 0 + d := by unfold sc ns; omega
theorem sc_sub (T U : Int) : (sc T - sc U) * 1000000000 + (ns T - ns U) = T - U := by unfold sc ns; omega

/-- The zero time, d nanoseconds on. -/
theorem add_zero_any (d : Int) (w : World) (h : Fits d) :
    Calls Try.prog 7 #[.agg #[.int .u64 0, .int .i64 0, .pointer none], .int .i64 d] w fun e w' => e = .returned (.agg #[.int .u64 (ns d), .int .i64 (sc d), .pointer none]) ∧ ∃ c1 c2 : Array Value, w' = (w.alloc (.cells c1 27)).alloc (.cells c2 27) :=
  add_any 0 0 d (sc d) (ns d) w (by decide) (by decide) (by decide) (by decide) h.1 h.2 (ns_lo d) (ns_hi d) (sc_ns d)

set_option maxHeartbeats 2000000 in
theorem zz_any (a T U : Int) (w : World) (hT : Fits T) (hU : Fits U) (hD : Fits (T - U)) :
    Calls Try.prog 5 #[.int .i64 a, .int .i64 U, .int .i64 T] w fun e w' => e = .returned (.bool (decide (a < T - U))) ∧ Ok w w' := by
  go_enter Try.func5, Try.ntmps5
  go_wp2_with fail
  go_region_held3 (fun w' => w'.cell? ⟨w.heap.size, 0, none⟩ = some (.int .u64 0) ∧ w'.cell? ⟨w.heap.size, 1, none⟩ = some (.int .i64 0) ∧ w'.cell? ⟨w.heap.size, 2, none⟩ = some (.pointer none)) (simp [go_sem, World.cell?_alloc_past, *])
    (first
      | (go_at_call 7; refine (add_zero_any _ _ (by assumption)).mono ?_; rintro e w' ⟨rfl, o1, o2, rfl⟩)
      | (go_at_call 6; refine (misfired_any _ a (sc T) (ns T) (sc U) (ns U) (T - U) _ (ns_lo T) (ns_hi T) (ns_lo U) (ns_hi U) (sc_lo hT) (sc_hi hT) (sc_lo hU) (sc_hi hU) ⟨sc_sub T U, hD.1, hD.2⟩).mono ?_; rintro e w' ⟨rfl, hok⟩; have hc := bcell hok.below))
  go_wp2
  go_ret
  refine ⟨rfl, Ok.trans ?_ hok⟩
  repeat (first | exact Ok.refl _ | apply Ok.drew | apply Ok.alloc)
end Go.Proofs.Qxb6613055a
