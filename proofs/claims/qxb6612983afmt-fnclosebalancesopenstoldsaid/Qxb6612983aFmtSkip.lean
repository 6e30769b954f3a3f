/-
  skipSpace (36): it steps over blanks and writes the decoder's place; the loop only reads.
-/
import Derived.Test.Qxb6612983aFmtLeaves
namespace Go.Proofs.Qxb6612983aFmt
open Go.RowKit Bal

theorem spc_snoc {X : Nat → Int} {p k : Nat} (h : ∀ i, p ≤ i → i < k → spc (X i)) (hk : spc (X k)) : ∀ i, p ≤ i → i < k + 1 → spc (X i) := by
  intro i h1 h2
  by_cases e : i = k
  · subst e; exact hk
  · exact h i h1 (by omega)

set_option maxHeartbeats 1000000 in
theorem skip_any (B : Nat) (ao : Option Addr) (b off n cap : Nat) (X : Nat → Int) (p : Nat) (d : Int) (w : World) (hn : n ≤ 1048576) (h : Dec w B (.slice ao n cap) p d) (hL : Lies w ao b off n X) (hp : p ≤ n) :
    Calls Tryf.prog 36 #[.pointer (some ⟨B, 0, none⟩)] w fun e w' => e = .returned (.tuple #[]) ∧ ∃ q : Nat, p ≤ q ∧ q ≤ n ∧ (∀ i, p ≤ i → i < q → spc (X i)) ∧ Dec w' B (.slice ao n cap) q d ∧ Below B w w' := by
  have HD : Hid (Dec w B (.slice ao n cap) p d) := h
  obtain ⟨c0, c1, c2, f1, f2⟩ := h
  go_enter Tryf.func36, Tryf.ntmps36
  go_wp2
  go_loop [2] (fun i => ∃ k : Nat, p ≤ k ∧ k ≤ n ∧ i = .int .i64 k ∧ Hid (∀ i, p ≤ i → i < k → spc (X i))) (fun i => n - (intOf i).toNat)
  case atStart => exact ⟨p, Nat.le_refl _, hp, rfl, fun i h1 h2 => absurd h1 (by omega)⟩
  case round =>
    obtain ⟨k, hpk, hk, rfl, HS⟩ := hrel
    by_cases hlt : k < n
    · obtain ⟨c, hc⟩ : ∃ c, c = X k := ⟨_, rfl⟩
      have hcell := hL.2 k hlt
      rw [← hc] at hcell
      have HC : Hid (c = X k) := hc
      clear hc
      obtain rfl := hL.1 (by omega)
      have HL : Hid (Lies w (some ⟨b, off, none⟩) b off n X) := hL
      clear hL
      by_cases e1 : c = 32
      · subst e1
        go_wp2
        go_round
        case rel => exact ⟨k + 1, by omega, by omega, by go_num, spc_snoc HS (by rw [← HC.out]; unfold spc; omega)⟩
        case measure => simp [intOf]; omega
      · by_cases e2 : c = 10
        · subst e2
          go_wp2
          go_round
          case rel => exact ⟨k + 1, by omega, by omega, by go_num, spc_snoc HS (by rw [← HC.out]; unfold spc; omega)⟩
          case measure => simp [intOf]; omega
        · by_cases e3 : c = 9
          · subst e3
            go_wp2
            go_round
            case rel => exact ⟨k + 1, by omega, by omega, by go_num, spc_snoc HS (by rw [← HC.out]; unfold spc; omega)⟩
            case measure => simp [intOf]; omega
          · by_cases e4 : c = 13
            · subst e4
              go_wp2
              go_round
              case rel => exact ⟨k + 1, by omega, by omega, by go_num, spc_snoc HS (by rw [← HC.out]; unfold spc; omega)⟩
              case measure => simp [intOf]; omega
            · have g1 : (c == 32) = false := by simpa using e1
              have g2 : (c == 10) = false := by simpa using e2
              have g3 : (c == 9) = false := by simpa using e3
              have g4 : (c == 13) = false := by simpa using e4
              clear e1 e2 e3 e4
              by_cases e5 : c ≤ 32
              · go_wp2
                go_end0
                exact ⟨rfl, k, hpk, hk, HS, HD.out.putPos k, bel_set (Below.refl _ _) _ _⟩
              · go_wp2
                go_end0
                exact ⟨rfl, k, hpk, hk, HS, HD.out.putPos k, bel_set (Below.refl _ _) _ _⟩
    · go_wp2
      go_end0
      exact ⟨rfl, k, hpk, hk, HS, HD.out.putPos k, bel_set (Below.refl _ _) _ _⟩
end Go.Proofs.Qxb6612983aFmt
