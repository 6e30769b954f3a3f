/-
  The plain mathematics of the law: no Go in sight. X: the bytes by their index.
  'opn X k', 'cls X k': how many of the first k bytes open, close a bracket.
-/
import Derived.KernelRfl
namespace Go.Proofs.Qxb6612983aFmt.Bal

def opn (X : Nat → Int) : Nat → Int
  | 0 => 0
  | k + 1 => opn X k + (if X k = 123 ∨ X k = 91 then 1 else 0)
def cls (X : Nat → Int) : Nat → Int
  | 0 => 0
  | k + 1 => cls X k + (if X k = 125 ∨ X k = 93 then 1 else 0)

theorem opn_hit {X : Nat → Int} {k : Nat} (h : X k = 123 ∨ X k = 91) : opn X (k + 1) = opn X k + 1 := by simp only [opn]; rw [if_pos h]
theorem opn_miss {X : Nat → Int} {k : Nat} (h : ¬ (X k = 123 ∨ X k = 91)) : opn X (k + 1) = opn X k := by simp only [opn]; rw [if_neg h]; omega
theorem cls_hit {X : Nat → Int} {k : Nat} (h : X k = 125 ∨ X k = 93) : cls X (k + 1) = cls X k + 1 := by simp only [cls]; rw [if_pos h]
theorem cls_miss {X : Nat → Int} {k : Nat} (h : ¬ (X k = 125 ∨ X k = 93)) : cls X (k + 1) = cls X k := by simp only [cls]; rw [if_neg h]; omega

theorem opn_step (X : Nat → Int) (k : Nat) : opn X k ≤ opn X (k + 1) ∧ opn X (k + 1) ≤ opn X k + 1 := by
  by_cases h : X k = 123 ∨ X k = 91
  · rw [opn_hit h]; omega
  · rw [opn_miss h]; omega
theorem cls_step (X : Nat → Int) (k : Nat) : cls X k ≤ cls X (k + 1) ∧ cls X (k + 1) ≤ cls X k + 1 := by
  by_cases h : X k = 125 ∨ X k = 93
  · rw [cls_hit h]; omega
  · rw [cls_miss h]; omega

theorem opn_add (X : Nat → Int) (j m : Nat) : opn X j ≤ opn X (j + m) ∧ opn X (j + m) ≤ opn X j + m := by
  induction m with
  | zero => simp
  | succ m ih => have := opn_step X (j + m); rw [← Nat.add_assoc]; omega
theorem cls_add (X : Nat → Int) (j m : Nat) : cls X j ≤ cls X (j + m) ∧ cls X (j + m) ≤ cls X j + m := by
  induction m with
  | zero => simp
  | succ m ih => have := cls_step X (j + m); rw [← Nat.add_assoc]; omega
theorem opn_le (X : Nat → Int) {j k : Nat} (h : j ≤ k) : opn X j ≤ opn X k ∧ opn X k ≤ opn X j + (k - j : Nat) := by
  obtain ⟨m, rfl⟩ := Nat.le.dest h
  have := opn_add X j m
  omega
theorem cls_le (X : Nat → Int) {j k : Nat} (h : j ≤ k) : cls X j ≤ cls X k ∧ cls X k ≤ cls X j + (k - j : Nat) := by
  obtain ⟨m, rfl⟩ := Nat.le.dest h
  have := cls_add X j m
  omega

/-- A byte that skipSpace steps over. -/
def spc (c : Int) : Prop := c = 32 ∨ c = 10 ∨ c = 9 ∨ c = 13

theorem flat_add {X : Nat → Int} (j m : Nat) (h : ∀ i, j ≤ i → i < j + m → spc (X i)) : opn X (j + m) = opn X j ∧ cls X (j + m) = cls X j := by
  induction m with
  | zero => simp
  | succ m ih =>
    have hs := h (j + m) (by omega) (by omega)
    unfold spc at hs
    have := ih (fun i h1 h2 => h i h1 (by omega))
    rw [← Nat.add_assoc, opn_miss (by omega), cls_miss (by omega)]
    exact this
theorem flat {X : Nat → Int} {j k : Nat} (hjk : j ≤ k) (h : ∀ i, j ≤ i → i < k → spc (X i)) : opn X k = opn X j ∧ cls X k = cls X j := by
  obtain ⟨m, rfl⟩ := Nat.le.dest hjk
  exact flat_add j m h

end Go.Proofs.Qxb6612983aFmt.Bal
