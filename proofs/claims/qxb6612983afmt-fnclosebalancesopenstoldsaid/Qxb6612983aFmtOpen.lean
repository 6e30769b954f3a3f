/-
  open (24), ZZopen (11): one level deeper, over the bracket and the blanks behind it; where the closing bracket follows at once, over that too, one level up again.
-/
import Derived.Test.Qxb6612983aFmtSkip
import Derived.Deep.QuietTactic
import Derived.BigQuiet
import Derived.WalkSmall
namespace Go.Proofs.Qxb6612983aFmt
open Go.RowKit Bal

theorem Lies.under {w w' : World} {B : Nat} {ao : Option Addr} {b off n : Nat} {X : Nat → Int} (h : Lies w ao b off n X) (hB : 0 < n → b < B) (hb : Below B w w') : Lies w' ao b off n X :=
  ⟨h.1, fun j hj => by rw [hb.cell (p := ⟨b, off + j, none⟩) (hB (by omega))]; exact h.2 j hj⟩

theorem Dec.drewN {w : World} {B : Nat} {v : Value} {p d : Int} (h : Dec w B v p d) (n : Nat) : Dec (w.drewN n) B v p d := ⟨h.c0, h.c1, h.c2, h.f1, h.f2⟩

/-- What 'open' leaves: 'em' says whether the closing bracket followed at once. -/
def Opened (w w' : World) (B : Nat) (v : Value) (n : Nat) (X : Nat → Int) (p : Nat) (d end' : Int) (em : Bool) : Prop :=
  ∃ q : Nat, p + 1 ≤ q ∧ q ≤ n ∧ (∀ i, p + 1 ≤ i → i < q → spc (X i)) ∧ Below B w w' ∧
    ((em = false ∧ Dec w' B v q (d + 1)) ∨ (em = true ∧ q < n ∧ X q = end' ∧ Dec w' B v (q + 1) d))

set_option maxHeartbeats 1000000 in
theorem open_any (B : Nat) (ao : Option Addr) (b off n cap : Nat) (X : Nat → Int) (p : Nat) (d end' : Int) (w : World) (hn : n ≤ 1048576) (h : Dec w B (.slice ao n cap) p d) (hL : Lies w ao b off n X) (hB : 0 < n → b < B) (hp : p < n)
    (hd : -2000000000 ≤ d) (hd2 : d < 10000) :
    Calls Tryf.prog 24 #[.pointer (some ⟨B, 0, none⟩), .int .u8 end'] w fun e w' => ∃ em, e = .returned (.tuple #[.bool em, .nilIface]) ∧ Opened w w' B (.slice ao n cap) n X p d end' em := by
  have H2 : Hid (Dec ((w.setCell ⟨B, 2, none⟩ (.int .i64 (d + 1))).setCell ⟨B, 1, none⟩ (.int .i64 ((p : Int) + 1))) B (.slice ao n cap) ((p + 1 : Nat) : Int) (d + 1)) := (h.putDepth (d + 1)).putPos ((p : Int) + 1)
  have B2 : Hid (Below B w ((w.setCell ⟨B, 2, none⟩ (.int .i64 (d + 1))).setCell ⟨B, 1, none⟩ (.int .i64 ((p : Int) + 1)))) := bel_set (bel_set (Below.refl _ _) _ _) _ _
  have HL : Hid (Lies w ao b off n X) := hL
  clear hL
  obtain ⟨c0, c1, c2, f1, f2⟩ := h
  go_enter Tryf.func24, Tryf.ntmps24
  go_wp2_with fail
  refine (skip_any B ao b off n cap X (p + 1) (d + 1) _ hn H2.out (HL.out.under hB B2.out) (by omega)).mono ?_
  rintro e w1 ⟨rfl, q, hq1, hq2, hs, hD, hb⟩
  have HS : Hid (∀ i, p + 1 ≤ i → i < q → spc (X i)) := hs
  have hL1 := HL.out.under hB (B2.out.trans hb)
  have HD : Hid (Dec w1 B (.slice ao n cap) q (d + 1)) := hD
  have HB : Hid (Below B w w1) := B2.out.trans hb
  clear hs B2 H2 HL hb c0 c1 c2 f1 f2
  obtain ⟨c0, c1, c2, f1, f2⟩ := hD
  by_cases hlt : q < n
  · have hcell := hL1.2 q hlt
    obtain ⟨c, hc⟩ : ∃ c, c = X q := ⟨_, rfl⟩
    rw [← hc] at hcell
    have HC : Hid (c = X q) := hc
    clear hc
    obtain rfl := hL1.1 (by omega)
    clear hL1
    by_cases he : c = end'
    · subst he
      go_wp2_with fail
      go_quiet (fail)
      go_wp2_with fail
      refine (close_any B _ q (d + 1) _ (HD.out.drewN nq) (by omega) (by omega) (by omega) (by omega)).mono ?_
      rintro e w2 ⟨rfl, hD2, hb2⟩
      have e1 : d + 1 - 1 = d := by omega
      rw [e1] at hD2
      have HD2 : Hid (Dec w2 B (.slice (some ⟨b, off, none⟩) n cap) (q + 1) d) := hD2
      clear hD2 e1
      go_wp2
      go_ret2
      exact ⟨true, rfl, q, hq1, hq2, HS.out, (below_drewN HB.out nq).trans hb2, .inr ⟨rfl, hlt, HC.out.symm, HD2.out⟩⟩
    · have g : (c == end') = false := by simpa using he
      go_wp2_with fail
      go_quiet (fail)
      go_wp2
      go_ret2
      exact ⟨false, rfl, q, hq1, hq2, HS.out, below_drewN HB.out nq, .inl ⟨rfl, HD.out.drewN nq⟩⟩
  · clear hL1
    go_wp2_with fail
    go_quiet (fail)
    go_wp2
    go_ret2
    exact ⟨false, rfl, q, hq1, hq2, HS.out, below_drewN HB.out nq, .inl ⟨rfl, HD.out.drewN nq⟩⟩

theorem Opened.drewN {w w' : World} {B : Nat} {v : Value} {n : Nat} {X : Nat → Int} {p : Nat} {d end' : Int} {em : Bool} (h : Opened w w' B v n X p d end' em) (k : Nat) : Opened w (w'.drewN k) B v n X p d end' em := by
  obtain ⟨q, h1, h2, h3, h4, h5⟩ := h
  exact ⟨q, h1, h2, h3, below_drewN h4 k, h5.elim (fun ⟨a, b⟩ => .inl ⟨a, b.drewN k⟩) (fun ⟨a, b, c, e⟩ => .inr ⟨a, b, c, e.drewN k⟩)⟩

set_option maxHeartbeats 1000000 in
theorem zopen_any (B : Nat) (ao : Option Addr) (b off n cap : Nat) (X : Nat → Int) (p : Nat) (d end' : Int) (w : World) (hn : n ≤ 1048576) (h : Dec w B (.slice ao n cap) p d) (hL : Lies w ao b off n X) (hB : 0 < n → b < B) (hp : p < n)
    (hd : -2000000000 ≤ d) (hd2 : d < 10000) :
    Calls Tryf.prog 11 #[.pointer (some ⟨B, 0, none⟩), .int .u8 end'] w fun e w' => ∃ em, e = .returned (.tuple #[.bool em, .bool false]) ∧ Opened w w' B (.slice ao n cap) n X p d end' em := by
  go_enter Tryf.func11, Tryf.ntmps11
  go_wp2_with fail
  refine (open_any B ao b off n cap X p d end' _ hn h hL hB hp hd hd2).mono ?_
  rintro e w1 ⟨em, rfl, hO⟩
  have HO : Hid (Opened w w1 B (.slice ao n cap) n X p d end' em) := hO
  clear hO h hL
  go_wp2_with fail
  go_quiet (fail)
  go_wp2
  go_ret2
  exact ⟨em, rfl, HO.out.drewN nq⟩
end Go.Proofs.Qxb6612983aFmt
