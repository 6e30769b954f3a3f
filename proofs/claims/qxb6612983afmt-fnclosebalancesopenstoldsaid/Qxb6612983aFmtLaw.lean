/-
  FnCloseBalancesOpens (3): the law's own walk.
-/
import Derived.Test.Qxb6612983aFmtOpen
namespace Go.Proofs.Qxb6612983aFmt
open Go.RowKit Bal

/-- The main loop's state: the decoder stands at q; its depth is what the brackets between p and q make of it. -/
def Kept (X : Nat → Int) (p q : Nat) (depth dd : Int) : Prop := p ≤ q ∧ dd = depth + (opn X q - opn X p) - (cls X q - cls X p)

theorem Kept.bounds {X : Nat → Int} {p q n : Nat} {depth dd : Int} (h : Kept X p q depth dd) (hq : q ≤ n) (hd : depth + (opn X n - opn X p) ≤ 10000) (hd0 : -1073741824 ≤ depth) (hn : n ≤ 1048576) : -1100000000 ≤ dd ∧ dd ≤ 10000 := by
  obtain ⟨h1, h2⟩ := h
  have a := opn_le X h1
  have b := cls_le X h1
  have c := opn_le X hq
  omega
theorem Kept.room {X : Nat → Int} {p q n : Nat} {depth dd : Int} (h : Kept X p q depth dd) (hq : q < n) (hd : depth + (opn X n - opn X p) ≤ 10000) (ho : X q = 123 ∨ X q = 91) : dd < 10000 := by
  obtain ⟨h1, h2⟩ := h
  have b := cls_le X h1
  have c := opn_le X (show q + 1 ≤ n by omega)
  have e := opn_hit ho
  omega
theorem Kept.opened {X : Nat → Int} {p q r : Nat} {depth dd : Int} (h : Kept X p q depth dd) (ho : X q = 123 ∨ X q = 91) (hr : q + 1 ≤ r) (hs : ∀ i, q + 1 ≤ i → i < r → spc (X i)) : Kept X p r depth (dd + 1) := by
  obtain ⟨h1, h2⟩ := h
  have e := opn_hit ho
  have e' := cls_miss (X := X) (k := q) (by omega)
  have f := flat hr hs
  exact ⟨by omega, by omega⟩
theorem Kept.closed {X : Nat → Int} {p q : Nat} {depth dd : Int} (h : Kept X p q depth dd) (hc : X q = 125 ∨ X q = 93) : Kept X p (q + 1) depth (dd - 1) := by
  obtain ⟨h1, h2⟩ := h
  have e := opn_miss (X := X) (k := q) (by omega)
  have e' := cls_hit hc
  exact ⟨by omega, by omega⟩
theorem Kept.other {X : Nat → Int} {p q : Nat} {depth dd : Int} (h : Kept X p q depth dd) (ho : ¬ (X q = 123 ∨ X q = 91)) (hc : ¬ (X q = 125 ∨ X q = 93)) : Kept X p (q + 1) depth dd := by
  obtain ⟨h1, h2⟩ := h
  have e := opn_miss ho
  have e' := cls_miss hc
  exact ⟨by omega, by omega⟩

/-- What the counting loop has counted when it stands at k. -/
def Cnt (X : Nat → Int) (p k : Nat) (oo cc : Int) : Prop := p ≤ k ∧ oo = opn X k - opn X p ∧ cc = cls X k - cls X p
theorem Cnt.bounds {X : Nat → Int} {p k : Nat} {oo cc : Int} (h : Cnt X p k oo cc) : 0 ≤ oo ∧ oo ≤ k ∧ 0 ≤ cc ∧ cc ≤ k := by
  obtain ⟨h1, h2, h3⟩ := h
  have a := opn_le X h1
  have b := cls_le X h1
  omega
theorem Cnt.o {X : Nat → Int} {p k : Nat} {oo cc : Int} (h : Cnt X p k oo cc) (ho : X k = 123 ∨ X k = 91) : Cnt X p (k + 1) (oo + 1) cc := by
  obtain ⟨h1, h2, h3⟩ := h
  exact ⟨by omega, by rw [opn_hit ho]; omega, by rw [cls_miss (by omega)]; omega⟩
theorem Cnt.c {X : Nat → Int} {p k : Nat} {oo cc : Int} (h : Cnt X p k oo cc) (ho : X k = 125 ∨ X k = 93) : Cnt X p (k + 1) oo (cc + 1) := by
  obtain ⟨h1, h2, h3⟩ := h
  exact ⟨by omega, by rw [opn_miss (by omega)]; omega, by rw [cls_hit ho]; omega⟩
theorem Cnt.n {X : Nat → Int} {p k : Nat} {oo cc : Int} (h : Cnt X p k oo cc) (ho : ¬ (X k = 123 ∨ X k = 91)) (hc : ¬ (X k = 125 ∨ X k = 93)) : Cnt X p (k + 1) oo cc := by
  obtain ⟨h1, h2, h3⟩ := h
  exact ⟨by omega, by rw [opn_miss ho]; omega, by rw [cls_miss hc]; omega⟩

set_option maxHeartbeats 4000000 in
set_option maxRecDepth 100000 in
theorem main_any (ao : Option Addr) (b off n cap : Nat) (X : Nat → Int) (p : Nat) (depth : Int) (w : World) (hz : ao = none → n = 0 ∧ cap = 0) (hL : Lies w ao b off n X) (hn : n ≤ 1048576) (hp : p ≤ n) (hd0 : -1073741824 ≤ depth) (hd1 : depth ≤ 10000) :
    Calls Tryf.prog 3 #[.slice ao n cap, .int .i64 p, .int .i64 depth] w fun e w' => e = .returned (.bool true) ∧ Below w.heap.size w w' := by
  have HZ : Hid (ao = none → n = 0 ∧ cap = 0) := hz
  clear hz
  go_enter Tryf.func3, Tryf.ntmps3
  go_wp2_with (go_at_call 7; refine (bytes_yes _ _ _ _ _ _ hn).mono ?_; rintro e w' ⟨rfl, hw⟩; obtain rfl : w = w' := hw.symm)
  go_loop [7, 8, 9] (fun o c i => ∃ (k : Nat) (oo cc : Int), k ≤ n ∧ o = .int .i64 oo ∧ c = .int .i64 cc ∧ i = .int .i64 k ∧ Hid (Cnt X p k oo cc)) (fun _ _ i => n - (intOf i).toNat)
  case atStart => exact ⟨p, 0, 0, hp, rfl, rfl, rfl, Nat.le_refl _, by omega, by omega⟩
  case round =>
    obtain ⟨k, oo, cc, hk, rfl, rfl, rfl, HC⟩ := hrel
    have hbd := HC.out.bounds
    obtain ⟨hb1, hb2, hb3, hb4⟩ := hbd
    by_cases hlt : k < n
    · obtain ⟨c, hc⟩ : ∃ c, c = X k := ⟨_, rfl⟩
      have hcell := hL.2 k hlt
      rw [← hc] at hcell
      have HX : Hid (c = X k) := hc
      clear hc
      obtain rfl := hL.1 (by omega)
      clear hL HZ
      by_cases e1 : c = 123
      · subst e1
        go_wp2
        go_round
        case rel => exact ⟨k + 1, oo + 1, cc, by omega, rfl, rfl, by go_num, HC.out.o (by rw [← HX.out]; omega)⟩
        case measure => simp [intOf]; omega
      · by_cases e2 : c = 91
        · subst e2
          go_wp2
          go_round
          case rel => exact ⟨k + 1, oo + 1, cc, by omega, rfl, rfl, by go_num, HC.out.o (by rw [← HX.out]; omega)⟩
          case measure => simp [intOf]; omega
        · by_cases e3 : c = 125
          · subst e3
            go_wp2
            go_round
            case rel => exact ⟨k + 1, oo, cc + 1, by omega, rfl, rfl, by go_num, HC.out.c (by rw [← HX.out]; omega)⟩
            case measure => simp [intOf]; omega
          · by_cases e4 : c = 93
            · subst e4
              go_wp2
              go_round
              case rel => exact ⟨k + 1, oo, cc + 1, by omega, rfl, rfl, by go_num, HC.out.c (by rw [← HX.out]; omega)⟩
              case measure => simp [intOf]; omega
            · have g1 : (c == 123) = false := by simpa using e1
              have g2 : (c == 91) = false := by simpa using e2
              have g3 : (c == 125) = false := by simpa using e3
              have g4 : (c == 93) = false := by simpa using e4
              have HN : Hid (¬ (X k = 123 ∨ X k = 91) ∧ ¬ (X k = 125 ∨ X k = 93)) := by rw [← HX.out]; exact ⟨by omega, by omega⟩
              clear e1 e2 e3 e4
              go_wp2
              go_round
              case rel => exact ⟨k + 1, oo, cc, by omega, rfl, rfl, by go_num, HC.out.n HN.out.1 HN.out.2⟩
              case measure => simp [intOf]; omega
    · have e : n = k := by omega
      subst e
      by_cases ho : 10000 - depth < oo
      · go_wp2
        go_ret
        exact ⟨rfl, Below.refl _ _⟩
      · have HK : Hid (depth + (opn X n - opn X p) ≤ 10000) := by
          obtain ⟨_, h2, _⟩ := HC.out
          show _ ≤ _
          omega
        go_wp2_with fail
        refine (clone_any ao b off n cap X _ hn HZ.out hL).mono ?_
        rintro e w1 ⟨a1, b1, o1, cap1, rfl, hz1, hL1, hbel1⟩
        have HZ1 : Hid (a1 = none → n = 0 ∧ cap1 = 0) := hz1
        have HB1 : Hid (Below w.heap.size w w1) := hbel1
        clear hz1 hbel1 HZ hL
        go_wp2_with fail
        refine (clone_any a1 b1 o1 n cap1 X _ hn HZ1.out hL1).mono ?_
        rintro e w2 ⟨a2, b2, o2, cap2, rfl, hz2, hL2, hbel2⟩
        have hL1 := hL1.below (Nat.le_refl _) hbel2
        have HB2 : Hid (Below w.heap.size w w2) := HB1.out.trans (hbel2.mono HB1.out.size)
        have hlt1 : 0 < n → b1 < w2.heap.size := fun h0 => hL1.lt h0
        have hlt2 : 0 < n → b2 < w2.heap.size := fun h0 => hL2.lt h0
        clear hz2 hbel2 HZ1 HB1
        go_wp2_with fail
        refine (new_any a2 n cap2 p depth _).mono ?_
        rintro e w3 ⟨rfl, hD, hbel3, hs3⟩
        have hL1 := hL1.below (Nat.le_refl _) hbel3
        have hL2 := hL2.below (Nat.le_refl _) hbel3
        have HB3 : Hid (Below w.heap.size w w3) := HB2.out.trans (hbel3.mono HB2.out.size)
        have HBs : Hid (w.heap.size ≤ w2.heap.size) := HB2.out.size
        obtain ⟨B, hB⟩ : ∃ B, B = w2.heap.size := ⟨_, rfl⟩
        rw [← hB] at hD hlt1 hlt2 HBs hbel3 ⊢
        clear HB2 hs3 hbel3 hB
        go_wp2_with fail
        go_loopg [12] (n + 1) (fun g st wr => ∃ (j q : Nat) (dd : Int), j ≤ q ∧ q ≤ n ∧ g = n + 1 - j ∧ st = .int .i64 j ∧ Dec wr B (.slice a2 n cap2) q dd ∧ Hid (Below B w3 wr) ∧ Hid (Kept X p q depth dd))
        case atStart => exact ⟨0, p, depth, by omega, by omega, by omega, rfl, hD, Below.refl _ _, Nat.le_refl _, by omega⟩
        case round =>
          obtain ⟨j, q, dd, hjq, hqn, rfl, rfl, hDr, HBr, HKr⟩ := hrel
          clear hD
          obtain ⟨hdd1, hdd2⟩ := HKr.out.bounds hqn HK.out hd0 hn
          by_cases hlt : q < n
          · have hcell := (hL1.under hlt1 HBr.out).2 q hlt
            obtain ⟨c, hc⟩ : ∃ c, c = X q := ⟨_, rfl⟩
            rw [← hc] at hcell
            have HX : Hid (c = X q) := hc
            clear hc
            obtain rfl := hL1.1 (by omega)
            by_cases e : c = 123
            · subst e
              go_wp2_with fail
              refine (pos_any B _ q dd _ hDr).mono ?_
              rintro e w' ⟨rfl, hw⟩
              obtain rfl : wr = w' := hw.symm
              go_wp2_with fail
              refine (zopen_any B a2 b2 o2 n cap2 X q dd 125 _ hn hDr (hL2.under hlt2 HBr.out) hlt2 hlt (by omega) (HKr.out.room hlt HK.out (by rw [← HX.out]; omega))).mono ?_
              rintro e w' ⟨em, rfl, r, hr1, hr2, hrs, hrb, hr⟩
              have HRS : Hid (∀ i, q + 1 ≤ i → i < r → spc (X i)) := hrs
              have HRB : Hid (Below B w3 w') := HBr.out.trans hrb
              have HR : Hid ((em = false ∧ Dec w' B (.slice a2 n cap2) r (dd + 1)) ∨ (em = true ∧ r < n ∧ X r = 125 ∧ Dec w' B (.slice a2 n cap2) (r + 1) dd)) := hr
              clear hrs hrb hr
              go_wp2
              go_roundg (n + 1 - (j + 1))
              case measure => omega
              case rel =>
                have KO := HKr.out.opened (by rw [← HX.out]; omega) hr1 HRS.out
                rcases HR.out with ⟨_, hDn⟩ | ⟨_, hrn, hx, hDn⟩
                · exact ⟨j + 1, r, dd + 1, by omega, hr2, rfl, by go_num, hDn, HRB.out, KO⟩
                · refine ⟨j + 1, r + 1, dd, by omega, by omega, rfl, by go_num, hDn, HRB.out, ?_⟩
                  have := KO.closed (by rw [hx]; omega)
                  rw [show dd + 1 - 1 = dd by omega] at this
                  exact this
            have g123 : (c == 123) = false := by simpa using e
            have h123 : Hid (¬ c = 123) := e
            clear e
            by_cases e : c = 91
            · subst e
              go_wp2_with fail
              refine (pos_any B _ q dd _ hDr).mono ?_
              rintro e w' ⟨rfl, hw⟩
              obtain rfl : wr = w' := hw.symm
              go_wp2_with fail
              refine (zopen_any B a2 b2 o2 n cap2 X q dd 93 _ hn hDr (hL2.under hlt2 HBr.out) hlt2 hlt (by omega) (HKr.out.room hlt HK.out (by rw [← HX.out]; omega))).mono ?_
              rintro e w' ⟨em, rfl, r, hr1, hr2, hrs, hrb, hr⟩
              have HRS : Hid (∀ i, q + 1 ≤ i → i < r → spc (X i)) := hrs
              have HRB : Hid (Below B w3 w') := HBr.out.trans hrb
              have HR : Hid ((em = false ∧ Dec w' B (.slice a2 n cap2) r (dd + 1)) ∨ (em = true ∧ r < n ∧ X r = 93 ∧ Dec w' B (.slice a2 n cap2) (r + 1) dd)) := hr
              clear hrs hrb hr
              go_wp2
              go_roundg (n + 1 - (j + 1))
              case measure => omega
              case rel =>
                have KO := HKr.out.opened (by rw [← HX.out]; omega) hr1 HRS.out
                rcases HR.out with ⟨_, hDn⟩ | ⟨_, hrn, hx, hDn⟩
                · exact ⟨j + 1, r, dd + 1, by omega, hr2, rfl, by go_num, hDn, HRB.out, KO⟩
                · refine ⟨j + 1, r + 1, dd, by omega, by omega, rfl, by go_num, hDn, HRB.out, ?_⟩
                  have := KO.closed (by rw [hx]; omega)
                  rw [show dd + 1 - 1 = dd by omega] at this
                  exact this
            have g91 : (c == 91) = false := by simpa using e
            have h91 : Hid (¬ c = 91) := e
            clear e
            by_cases e : c = 125
            · subst e
              go_wp2_with fail
              refine (pos_any B _ q dd _ hDr).mono ?_
              rintro e w' ⟨rfl, hw⟩
              obtain rfl : wr = w' := hw.symm
              go_wp2_with fail
              refine (zclose_any B _ q dd _ hDr (by omega) (by omega) (by omega) (by omega)).mono ?_
              rintro e w' ⟨rfl, hDn, hrb⟩
              have HRB : Hid (Below B w3 w') := HBr.out.trans hrb
              clear hrb
              go_wp2
              go_roundg (n + 1 - (j + 1))
              case measure => omega
              case rel => exact ⟨j + 1, q + 1, dd - 1, by omega, by omega, rfl, by go_num, hDn, HRB.out, HKr.out.closed (by rw [← HX.out]; omega)⟩
            have g125 : (c == 125) = false := by simpa using e
            have h125 : Hid (¬ c = 125) := e
            clear e
            by_cases e : c = 93
            · subst e
              go_wp2_with fail
              refine (pos_any B _ q dd _ hDr).mono ?_
              rintro e w' ⟨rfl, hw⟩
              obtain rfl : wr = w' := hw.symm
              go_wp2_with fail
              refine (zclose_any B _ q dd _ hDr (by omega) (by omega) (by omega) (by omega)).mono ?_
              rintro e w' ⟨rfl, hDn, hrb⟩
              have HRB : Hid (Below B w3 w') := HBr.out.trans hrb
              clear hrb
              go_wp2
              go_roundg (n + 1 - (j + 1))
              case measure => omega
              case rel => exact ⟨j + 1, q + 1, dd - 1, by omega, by omega, rfl, by go_num, hDn, HRB.out, HKr.out.closed (by rw [← HX.out]; omega)⟩
            have g93 : (c == 93) = false := by simpa using e
            have h93 : Hid (¬ c = 93) := e
            clear e
            have HN : Hid (¬ (X q = 123 ∨ X q = 91) ∧ ¬ (X q = 125 ∨ X q = 93)) := by
              have n1 := h123.out
              have n2 := h91.out
              have n3 := h125.out
              have n4 := h93.out
              rw [← HX.out]
              exact ⟨by omega, by omega⟩
            clear h123 h91 h125 h93
            go_wp2_with fail
            refine (pos_any B _ q dd _ hDr).mono ?_
            rintro e w' ⟨rfl, hw⟩
            obtain rfl : wr = w' := hw.symm
            go_wp2_with fail
            refine (setPos_any B _ q (q + 1) dd _ hDr).mono ?_
            rintro e w' ⟨rfl, hDn, hrb⟩
            have HRB : Hid (Below B w3 w') := HBr.out.trans hrb
            clear hrb
            go_wp2
            go_roundg (n + 1 - (j + 1))
            case measure => omega
            case rel => exact ⟨j + 1, q + 1, dd, by omega, by omega, rfl, by go_num, hDn, HRB.out, HKr.out.other HN.out.1 HN.out.2⟩
          · have e : n = q := by omega
            subst e
            have hfin : (dd == depth + oo - cc) = true := by
              obtain ⟨_, k2⟩ := HKr.out
              obtain ⟨_, c2, c3⟩ := HC.out
              rw [beq_iff_eq]
              omega
            go_wp2_with (first | (go_at_call 10; refine (pos_any B _ n dd _ hDr).mono ?_; rintro e w' ⟨rfl, hw⟩; obtain rfl : wr = w' := hw.symm) | (go_at_call 14; refine (depth_any B _ n dd _ hDr).mono ?_; rintro e w' ⟨rfl, hw⟩; obtain rfl : wr = w' := hw.symm))
            go_ret
            exact ⟨rfl, HB3.out.trans (HBr.out.mono HBs.out)⟩

/-! ### The ways on which the law answers true at once -/
set_option maxHeartbeats 400000 in
theorem long_any (ao : Option Addr) (n cap : Nat) (p d : Int) (w : World) (hn : 1048576 < n) :
    Calls Tryf.prog 3 #[.slice ao n cap, .int .i64 p, .int .i64 d] w fun e w' => e = .returned (.bool true) ∧ Below w.heap.size w w' := by
  go_enter Tryf.func3, Tryf.ntmps3
  go_wp2_with (go_at_call 7; refine (bytes_no _ _ _ _ _ _ hn).mono ?_; rintro e w' ⟨rfl, hw⟩; obtain rfl : w = w' := hw.symm)
  go_ret
  exact ⟨rfl, Below.refl _ _⟩
set_option maxHeartbeats 400000 in
theorem before_any (ao : Option Addr) (n cap : Nat) (p d : Int) (w : World) (hn : n ≤ 1048576) (hp : p < 0) :
    Calls Tryf.prog 3 #[.slice ao n cap, .int .i64 p, .int .i64 d] w fun e w' => e = .returned (.bool true) ∧ Below w.heap.size w w' := by
  go_enter Tryf.func3, Tryf.ntmps3
  go_wp2_with (go_at_call 7; refine (bytes_yes _ _ _ _ _ _ hn).mono ?_; rintro e w' ⟨rfl, hw⟩; obtain rfl : w = w' := hw.symm)
  go_ret
  exact ⟨rfl, Below.refl _ _⟩
set_option maxHeartbeats 400000 in
theorem past_any (ao : Option Addr) (n cap : Nat) (p d : Int) (w : World) (hn : n ≤ 1048576) (hp0 : 0 ≤ p) (hp : (n : Int) < p) :
    Calls Tryf.prog 3 #[.slice ao n cap, .int .i64 p, .int .i64 d] w fun e w' => e = .returned (.bool true) ∧ Below w.heap.size w w' := by
  go_enter Tryf.func3, Tryf.ntmps3
  go_wp2_with (go_at_call 7; refine (bytes_yes _ _ _ _ _ _ hn).mono ?_; rintro e w' ⟨rfl, hw⟩; obtain rfl : w = w' := hw.symm)
  go_ret
  exact ⟨rfl, Below.refl _ _⟩
set_option maxHeartbeats 400000 in
theorem shallow_any (ao : Option Addr) (n cap : Nat) (p d : Int) (w : World) (hn : n ≤ 1048576) (hp0 : 0 ≤ p) (hp : p ≤ n) (hd : d < -1073741824) :
    Calls Tryf.prog 3 #[.slice ao n cap, .int .i64 p, .int .i64 d] w fun e w' => e = .returned (.bool true) ∧ Below w.heap.size w w' := by
  go_enter Tryf.func3, Tryf.ntmps3
  go_wp2_with (go_at_call 7; refine (bytes_yes _ _ _ _ _ _ hn).mono ?_; rintro e w' ⟨rfl, hw⟩; obtain rfl : w = w' := hw.symm)
  go_ret
  exact ⟨rfl, Below.refl _ _⟩
set_option maxHeartbeats 400000 in
theorem deep_any (ao : Option Addr) (n cap : Nat) (p d : Int) (w : World) (hn : n ≤ 1048576) (hp0 : 0 ≤ p) (hp : p ≤ n) (hd0 : -1073741824 ≤ d) (hd : 10000 < d) :
    Calls Tryf.prog 3 #[.slice ao n cap, .int .i64 p, .int .i64 d] w fun e w' => e = .returned (.bool true) ∧ Below w.heap.size w w' := by
  go_enter Tryf.func3, Tryf.ntmps3
  go_wp2_with (go_at_call 7; refine (bytes_yes _ _ _ _ _ _ hn).mono ?_; rintro e w' ⟨rfl, hw⟩; obtain rfl : w = w' := hw.symm)
  go_ret
  exact ⟨rfl, Below.refl _ _⟩

/-- The law's walk: whatever bytes, place and depth. -/
theorem law_any (ao : Option Addr) (b off n cap : Nat) (X : Nat → Int) (p d : Int) (w : World) (hz : ao = none → n = 0 ∧ cap = 0) (hL : Lies w ao b off n X) :
    Calls Tryf.prog 3 #[.slice ao n cap, .int .i64 p, .int .i64 d] w fun e w' => e = .returned (.bool true) ∧ Below w.heap.size w w' := by
  by_cases hn : 1048576 < n
  · exact long_any ao n cap p d w hn
  · by_cases hp : p < 0
    · exact before_any ao n cap p d w (by omega) hp
    · by_cases hp2 : (n : Int) < p
      · exact past_any ao n cap p d w (by omega) (by omega) hp2
      · by_cases hd : d < -1073741824
        · exact shallow_any ao n cap p d w (by omega) (by omega) (by omega) hd
        · by_cases hd2 : 10000 < d
          · exact deep_any ao n cap p d w (by omega) (by omega) (by omega) (by omega) hd2
          · obtain ⟨k, rfl⟩ := Int.eq_ofNat_of_zero_le (show 0 ≤ p by omega)
            exact main_any ao b off n cap X k d w hz hL (by omega) (by omega) (by omega) (by omega)
end Go.Proofs.Qxb6612983aFmt
