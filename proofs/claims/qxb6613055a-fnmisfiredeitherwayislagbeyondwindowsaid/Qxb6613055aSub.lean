/-
  (time.Time).Sub (8) of two plain times whose difference fits an int64; (Job).Misfired (6); ZZmisfired (5).
-/
import Derived.Test.Qxb6613055aTimes
import Derived.Below
namespace Go.Proofs.Qxb6613055a
open Go.RowKit

theorem wrap_sub (st su xt xu D : Int) (h : (st - su) * 1000000000 + (xt - xu) = D) (h0 : -9223372036854775808 ≤ D) (h1 : D ≤ 9223372036854775807) : wrap64 (wrap64 ((st - su) * 1000000000) + (xt - xu)) = D := by
  unfold wrap64
  omega

/-- Nothing that was there has turned; new blocks at most. -/
structure Ok (w w' : World) : Prop where
  grown : Grown w w'
  below : Below w.heap.size w w'

theorem Ok.refl (w : World) : Ok w w := ⟨Grown.refl _, Below.refl _ _⟩
theorem Ok.alloc {w w' : World} (h : Ok w w') (c : Array Value) (t : TypeId) : Ok w (w'.alloc (.cells c t)) := ⟨h.grown.alloc c t, h.below.alloc h.below.size _⟩
theorem Ok.drew {w w' : World} (h : Ok w w') : Ok w w'.drew := ⟨h.grown.drew, h.below.drew⟩

set_option maxHeartbeats 2000000 in
theorem sub_any (st xt su xu D : Int) (w : World) (a0 : 0 ≤ xt) (a1 : xt < 1000000000) (b0 : 0 ≤ xu) (b1 : xu < 1000000000) (st0 : -10000000000 ≤ st) (st1 : st ≤ 10000000000) (su0 : -10000000000 ≤ su) (su1 : su ≤ 10000000000)
    (hD : Hid ((st - su) * 1000000000 + (xt - xu) = D ∧ -9223372036854775808 ≤ D ∧ D ≤ 9223372036854775807)) :
    Calls Try.prog 8 #[tm st xt, tm su xu] w fun e w' => e = .returned (.int .i64 D) ∧ Ok w w' := by
  unfold tm
  have hb := tops_no xt xu a0 (by omega) b0 (by omega)
  have hw := wrap_sub st su xt xu D hD.out.1 hD.out.2.1 hD.out.2.2
  go_enter Try.func8, Try.ntmps8
  go_wp2_with (first | (go_at_call_of 14 (Value.pointer (some ⟨w.heap.size, 0, none⟩)); refine (sec_any _ xt st _ a0 a1 (by simp [go_sem]) (by simp [go_sem])).mono ?_; rintro e w' ⟨rfl, hw⟩; subst hw) | (go_at_call 14; refine (sec_any _ xu su _ b0 b1 (by simp [go_sem]) (by simp [go_sem])).mono ?_; rintro e w' ⟨rfl, hw⟩; subst hw) | (go_at_call_of 10 (Value.pointer (some ⟨w.heap.size, 0, none⟩)); refine (nsec_any _ xt _ a0 a1 (by simp [go_sem])).mono ?_; rintro e w' ⟨rfl, hw⟩; subst hw) | (go_at_call 10; refine (nsec_any _ xu _ b0 b1 (by simp [go_sem])).mono ?_; rintro e w' ⟨rfl, hw⟩; subst hw))
  rw [hw]
  clear hw hb
  go_region_held3 (fun w' => w'.cell? ⟨w.heap.size, 0, none⟩ = some (.int .u64 xt) ∧ w'.cell? ⟨w.heap.size, 1, none⟩ = some (.int .i64 st) ∧ w'.cell? ⟨w.heap.size, 2, none⟩ = some (.pointer none) ∧ w'.cell? ⟨w.heap.size + 1, 0, none⟩ = some (.int .u64 xu) ∧ w'.cell? ⟨w.heap.size + 1, 1, none⟩ = some (.int .i64 su) ∧ w'.cell? ⟨w.heap.size + 1, 2, none⟩ = some (.pointer none)) (simp [go_sem, World.cell?_alloc_past])
    (first
      | (go_at_call 7; refine (add_any su xu D st xt _ b0 b1 su0 su1 hD.out.2.1 hD.out.2.2 a0 a1 (by have := hD.out.1; omega)).mono ?_; rintro e w' ⟨rfl, o1, o2, rfl⟩)
      | (go_at_call 15; refine (equal_same st xt _ a0 a1).mono ?_; rintro e w' ⟨rfl, o1, o2, rfl⟩))
  go_wp2
  go_ret
  exact ⟨rfl, by repeat (first | exact Ok.refl _ | apply Ok.drew | apply Ok.alloc)⟩
end Go.Proofs.Qxb6613055a
