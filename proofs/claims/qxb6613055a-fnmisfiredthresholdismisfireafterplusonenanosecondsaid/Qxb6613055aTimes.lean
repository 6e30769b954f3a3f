/-
  The small functions of package time on the laws' roads, at plain times (no monotonic reading, no location): nsec (10), sec (14), addSec (11), Add (7), Equal (15).
-/
import Derived.Test.Qxb6613055aRows
import Derived.Test.Qxb6613055aBits
import Derived.WalkKit
import Derived.WalkSpells
import Derived.ProofKit
import Derived.Deep.RegionHeld3
namespace Go.Proofs.Qxb6613055a
open Go.RowKit

set_option maxHeartbeats 400000 in
theorem nsec_any (b : Nat) (x : Int) (w : World) (h0 : 0 ≤ x) (h1 : x < 1000000000) (hc : w.cell? ⟨b, 0, none⟩ = some (.int .u64 x)) :
    Calls Try.prog 10 #[.pointer (some ⟨b, 0, none⟩)] w fun e w' => e = .returned (.int .i32 x) ∧ w' = w := by
  have hb := and_low x h0 (by omega)
  go_enter Try.func10, Try.ntmps10
  go_wp2
  go_ret
  exact ⟨rfl, rfl⟩
set_option maxHeartbeats 400000 in
theorem sec_any (b : Nat) (x s : Int) (w : World) (h0 : 0 ≤ x) (h1 : x < 1000000000) (hc : w.cell? ⟨b, 0, none⟩ = some (.int .u64 x)) (hc1 : w.cell? ⟨b, 1, none⟩ = some (.int .i64 s)) :
    Calls Try.prog 14 #[.pointer (some ⟨b, 0, none⟩)] w fun e w' => e = .returned (.int .i64 s) ∧ w' = w := by
  have hb := top_no x h0 (by omega)
  go_enter Try.func14, Try.ntmps14
  go_wp2
  go_ret
  exact ⟨rfl, rfl⟩
set_option maxHeartbeats 400000 in
theorem addSec_any (b : Nat) (x s d : Int) (w : World) (h0 : 0 ≤ x) (h1 : x < 1000000000) (hs0 : -20000000000 ≤ s) (hs1 : s ≤ 20000000000) (hd0 : -20000000000 ≤ d) (hd1 : d ≤ 20000000000) (hc : w.cell? ⟨b, 0, none⟩ = some (.int .u64 x)) (hc1 : w.cell? ⟨b, 1, none⟩ = some (.int .i64 s))
    (hf : w.frozen? ⟨b, 1, none⟩ = false) :
    Calls Try.prog 11 #[.pointer (some ⟨b, 0, none⟩), .int .i64 d] w fun e w' => e = .returned (.tuple #[]) ∧ w' = w.setCell ⟨b, 1, none⟩ (.int .i64 (s + d)) := by
  have hb := top_no x h0 (by omega)
  by_cases hd : 0 < d
  · have g1 : decide (s < s + d) = true := by simp; omega
    go_enter Try.func11, Try.ntmps11
    go_wp2
    go_end0
    exact ⟨rfl, rfl⟩
  · have g1 : decide (s < s + d) = false := by simp; omega
    go_enter Try.func11, Try.ntmps11
    go_wp2
    go_end0
    exact ⟨rfl, rfl⟩

/-- A plain time: s seconds and x nanoseconds since the zero time. -/
abbrev tm (s x : Int) : Value := .agg #[.int .u64 x, .int .i64 s, .pointer none]

set_option maxHeartbeats 1000000 in
theorem add_mid (s x d q r : Int) (w : World) (h0 : 0 ≤ x) (h1 : x < 1000000000) (hs0 : -10000000000 ≤ s) (hs1 : s ≤ 10000000000) (hq : d.tdiv 1000000000 = q) (hr : d.tmod 1000000000 = r) (hq0 : -9300000000 ≤ q) (hq1 : q ≤ 9300000000)
    (hr0 : -1000000000 < r) (hr1 : r < 1000000000) (hn0 : 0 ≤ x + r) (hn1 : x + r < 1000000000) :
    Calls Try.prog 7 #[tm s x, .int .i64 d] w fun e w' => e = .returned (tm (s + q) (x + r)) ∧ ∃ c1 c2 : Array Value, w' = (w.alloc (.cells c1 27)).alloc (.cells c2 27) := by
  unfold tm
  have hb1 := andNot_low x h0 (by omega)
  have hb2 := or_zero (x + r) (by omega) (by omega)
  have hb3 := top_no (x + r) (by omega) (by omega)
  go_enter Try.func7, Try.ntmps7
  go_wp2_with (go_at_call 10; refine (nsec_any _ x _ h0 h1 (by simp [go_sem])).mono ?_; rintro e w' ⟨rfl, hw⟩; subst hw)
  refine (addSec_any _ (x + r) s q _ (by omega) (by omega) (by omega) (by omega) (by omega) (by omega) (by simp [go_sem]) (by simp [go_sem]) (by simp [go_sem])).mono ?_
  rintro e w' ⟨rfl, rfl⟩
  go_wp2
  refine bodyPost_ret (v := .agg #[.int .u64 (x + r), .int .i64 (s + q), .pointer none]) (by simp [results, Try.results7, go_sem]) rfl ⟨rfl, ?_⟩
  exact ⟨_, _, rfl⟩

set_option maxHeartbeats 1000000 in
theorem add_hi (s x d q r : Int) (w : World) (h0 : 0 ≤ x) (h1 : x < 1000000000) (hs0 : -10000000000 ≤ s) (hs1 : s ≤ 10000000000) (hq : d.tdiv 1000000000 = q) (hr : d.tmod 1000000000 = r) (hq0 : -9300000000 ≤ q) (hq1 : q ≤ 9300000000)
    (hr0 : -1000000000 < r) (hr1 : r < 1000000000) (hn0 : 1000000000 ≤ x + r) :
    Calls Try.prog 7 #[tm s x, .int .i64 d] w fun e w' => e = .returned (tm (s + (q + 1)) (x + r - 1000000000)) ∧ ∃ c1 c2 : Array Value, w' = (w.alloc (.cells c1 27)).alloc (.cells c2 27) := by
  unfold tm
  have hb1 := andNot_low x h0 (by omega)
  have hb2 := or_zero (x + r - 1000000000) (by omega) (by omega)
  have hb3 := top_no (x + r - 1000000000) (by omega) (by omega)
  go_enter Try.func7, Try.ntmps7
  go_wp2_with (go_at_call 10; refine (nsec_any _ x _ h0 h1 (by simp [go_sem])).mono ?_; rintro e w' ⟨rfl, hw⟩; subst hw)
  refine (addSec_any _ (x + r - 1000000000) s (q + 1) _ (by omega) (by omega) (by omega) (by omega) (by omega) (by omega) (by simp [go_sem]) (by simp [go_sem]) (by simp [go_sem])).mono ?_
  rintro e w' ⟨rfl, rfl⟩
  go_wp2
  refine bodyPost_ret (v := .agg #[.int .u64 (x + r - 1000000000), .int .i64 (s + (q + 1)), .pointer none]) (by simp [results, Try.results7, go_sem]) rfl ⟨rfl, ?_⟩
  exact ⟨_, _, rfl⟩

set_option maxHeartbeats 1000000 in
theorem add_lo (s x d q r : Int) (w : World) (h0 : 0 ≤ x) (h1 : x < 1000000000) (hs0 : -10000000000 ≤ s) (hs1 : s ≤ 10000000000) (hq : d.tdiv 1000000000 = q) (hr : d.tmod 1000000000 = r) (hq0 : -9300000000 ≤ q) (hq1 : q ≤ 9300000000)
    (hr0 : -1000000000 < r) (hr1 : r < 1000000000) (hn0 : x + r < 0) :
    Calls Try.prog 7 #[tm s x, .int .i64 d] w fun e w' => e = .returned (tm (s + (q - 1)) (x + r + 1000000000)) ∧ ∃ c1 c2 : Array Value, w' = (w.alloc (.cells c1 27)).alloc (.cells c2 27) := by
  unfold tm
  have hb1 := andNot_low x h0 (by omega)
  have hb2 := or_zero (x + r + 1000000000) (by omega) (by omega)
  have hb3 := top_no (x + r + 1000000000) (by omega) (by omega)
  go_enter Try.func7, Try.ntmps7
  go_wp2_with (go_at_call 10; refine (nsec_any _ x _ h0 h1 (by simp [go_sem])).mono ?_; rintro e w' ⟨rfl, hw⟩; subst hw)
  refine (addSec_any _ (x + r + 1000000000) s (q - 1) _ (by omega) (by omega) (by omega) (by omega) (by omega) (by omega) (by simp [go_sem]) (by simp [go_sem]) (by simp [go_sem])).mono ?_
  rintro e w' ⟨rfl, rfl⟩
  go_wp2
  refine bodyPost_ret (v := .agg #[.int .u64 (x + r + 1000000000), .int .i64 (s + (q - 1)), .pointer none]) (by simp [results, Try.results7, go_sem]) rfl ⟨rfl, ?_⟩
  exact ⟨_, _, rfl⟩

theorem tdm (d : Int) : d = 1000000000 * d.tdiv 1000000000 + d.tmod 1000000000 ∧ -1000000000 < d.tmod 1000000000 ∧ d.tmod 1000000000 < 1000000000 :=
  ⟨(Int.mul_tdiv_add_tmod d 1000000000).symm, Int.lt_tmod_of_pos d (by decide), Int.tmod_lt_of_pos d (by decide)⟩

/-- (time.Time).Add at a plain time: the nanoseconds add up. -/
theorem add_any (s x d s' x' : Int) (w : World) (h0 : 0 ≤ x) (h1 : x < 1000000000) (hs0 : -10000000000 ≤ s) (hs1 : s ≤ 10000000000) (hd0 : -9223372036854775808 ≤ d) (hd1 : d ≤ 9223372036854775807)
    (k0 : 0 ≤ x') (k1 : x' < 1000000000) (he : s' * 1000000000 + x' = s * 1000000000 + x + d) :
    Calls Try.prog 7 #[tm s x, .int .i64 d] w fun e w' => e = .returned (tm s' x') ∧ ∃ c1 c2 : Array Value, w' = (w.alloc (.cells c1 27)).alloc (.cells c2 27) := by
  obtain ⟨t1, t2, t3⟩ := tdm d
  obtain ⟨q, hq⟩ : ∃ q, d.tdiv 1000000000 = q := ⟨_, rfl⟩
  obtain ⟨r, hr⟩ : ∃ r, d.tmod 1000000000 = r := ⟨_, rfl⟩
  rw [hq, hr] at t1
  rw [hr] at t2 t3
  by_cases c1 : x + r < 0
  · have := add_lo s x d q r w h0 h1 hs0 hs1 hq hr (by omega) (by omega) t2 t3 c1
    rwa [show s + (q - 1) = s' by omega, show x + r + 1000000000 = x' by omega] at this
  · by_cases c2 : 1000000000 ≤ x + r
    · have := add_hi s x d q r w h0 h1 hs0 hs1 hq hr (by omega) (by omega) t2 t3 c2
      rwa [show s + (q + 1) = s' by omega, show x + r - 1000000000 = x' by omega] at this
    · have := add_mid s x d q r w h0 h1 hs0 hs1 hq hr (by omega) (by omega) t2 t3 (by omega) (by omega)
      rwa [show s + q = s' by omega, show x + r = x' by omega] at this

set_option maxHeartbeats 1000000 in
/-- (time.Time).Equal of a plain time and itself. -/
theorem equal_same (s x : Int) (w : World) (h0 : 0 ≤ x) (h1 : x < 1000000000) :
    Calls Try.prog 15 #[tm s x, tm s x] w fun e w' => e = .returned (.bool true) ∧ ∃ c1 c2 : Array Value, w' = (w.alloc (.cells c1 27)).alloc (.cells c2 27) := by
  unfold tm
  have hb := tops_no x x h0 (by omega) h0 (by omega)
  go_enter Try.func15, Try.ntmps15
  go_wp2_with (first | (go_at_call 14; refine (sec_any _ x s _ h0 h1 (by simp [go_sem]) (by simp [go_sem])).mono ?_; rintro e w' ⟨rfl, hw⟩; subst hw) | (go_at_call 10; refine (nsec_any _ x _ h0 h1 (by simp [go_sem])).mono ?_; rintro e w' ⟨rfl, hw⟩; subst hw))
  go_ret
  exact ⟨rfl, _, _, rfl⟩
end Go.Proofs.Qxb6613055a
