import Derived.Test.Qxb6603993aInc
import Derived.Test.Qxb6603993aMulOne
namespace Go.Proofs.Qxb6603993a
open Go.RowKit
set_option linter.unusedVariables false

/-! ### The plain law: digits and one more -/
theorem first_not (p : Nat → Prop) (dec : ∀ j, Decidable (p j)) : ∀ N, (∀ j, j < N → p j) ∨ ∃ n, n < N ∧ (∀ j, j < n → p j) ∧ ¬ p n
  | 0 => .inl fun j h => by omega
  | N + 1 => by
    rcases first_not p dec N with h | ⟨n, h1, h2, h3⟩
    · by_cases hp : p N
      · exact .inl fun j hj => by
          rcases Nat.lt_or_ge j N with k | k
          · exact h j k
          · obtain rfl : j = N := by omega
            exact hp
      · exact .inr ⟨N, by omega, h, hp⟩
    · exact .inr ⟨n, by omega, h2, h3⟩
theorem dv_inc (l : Int) (n : Nat) (h : ∀ j, j < n → dv l j % 10 = 9) : ∀ j, j ≤ n → dv (l + 1) j = dv l j + 1
  | 0, _ => by rw [dv_zero, dv_zero]
  | j + 1, hj => by
    have ih := dv_inc l n h j (by omega)
    have h9 := h j (by omega)
    rw [← dv_succ, ← dv_succ, ih]; omega
theorem dv_same (l : Int) (n : Nat) (h : ∀ j, j < n → dv l j % 10 = 9) (hn : dv l n % 10 ≠ 9) : ∀ j, dv (l + 1) (n + 1 + j) = dv l (n + 1 + j)
  | 0 => by
    have ih := dv_inc l n h n (Nat.le_refl _)
    show dv (l + 1) (n + 1) = dv l (n + 1)
    rw [← dv_succ, ← dv_succ, ih]; omega
  | j + 1 => by
    have ih := dv_same l n h hn j
    show dv (l + 1) (n + 1 + j + 1) = dv l (n + 1 + j + 1)
    rw [← dv_succ, ← dv_succ, ih]
theorem all_nine (l : Int) (h0 : 0 ≤ l) (h1 : l < 1000000000000000000) (h : ∀ j, j < 18 → dv l j % 10 = 9) : l = 999999999999999999 := by
  have a := dv_inc l 18 h 18 (Nat.le_refl _)
  rw [dv_top l h0 h1] at a
  unfold dv at a
  have e : (10 : Int) ^ 18 = 1000000000000000000 := by decide
  rw [e] at a
  omega
theorem nines : ∀ j, j < 18 → dv 999999999999999999 j % 10 = 9 := by decide +kernel
theorem noughts : ∀ j, j < 18 → dv 0 j % 10 = 0 := by decide +kernel
theorem top_digits : ∀ j, j < 36 → tops j = dg 100000000000000000 0 j := by decide +kernel

theorem bump_low (h l : Int) (n : Nat) (hn : n < 18) (h9 : ∀ j, j < n → dv l j % 10 = 9) (hne : dv l n % 10 ≠ 9) : A (bump (dg h l) n) = A (dg h (l + 1)) := A_congr fun j hj => by
  unfold bump strike dg
  have hd : ∀ j, 0 ≤ dv l j % 10 ∧ dv l j % 10 < 10 := fun j => by omega
  by_cases e : j = n
  · subst e
    have := dv_inc l j h9 j (Nat.le_refl _)
    have hb := hd j
    simp only [hn, if_true, this]; omega
  · by_cases e1 : j < n
    · have := dv_inc l n h9 j (by omega)
      have k9 := h9 j e1
      simp only [e, e1, show j < 18 by omega, if_true, if_false, this]; omega
    · by_cases e2 : j < 18
      · have := dv_same l n h9 hne (j - (n + 1))
        rw [show n + 1 + (j - (n + 1)) = j by omega] at this
        simp only [e, e1, e2, if_true, if_false, this]
      · simp only [e, e1, e2, if_false]
theorem bump_high (h : Int) (n : Nat) (hn : n < 18) (h9 : ∀ j, j < n → dv h j % 10 = 9) (hne : dv h n % 10 ≠ 9) : A (bump (dg h 999999999999999999) (18 + n)) = A (dg (h + 1) 0) := A_congr fun j hj => by
  unfold bump strike dg
  by_cases e : j = 18 + n
  · subst e
    have := dv_inc h n h9 n (Nat.le_refl _)
    simp only [show ¬ 18 + n < 18 by omega, if_true, if_false, show 18 + n - 18 = n by omega, this]; omega
  · by_cases e2 : j < 18
    · have := noughts j e2
      simp only [e, e2, show j < 18 + n by omega, if_true, if_false, this]
    · by_cases e1 : j < 18 + n
      · have := dv_inc h n h9 (j - 18) (by omega)
        have k9 := h9 (j - 18) (by omega)
        simp only [e, e1, e2, if_true, if_false, this]; omega
      · have := dv_same h n h9 hne (j - 18 - (n + 1))
        rw [show n + 1 + (j - 18 - (n + 1)) = j - 18 by omega] at this
        simp only [e, e1, e2, if_false, this]

theorem dg_bd (h l : Int) (j : Nat) : 0 ≤ dg h l j ∧ dg h l j ≤ 9 := by
  unfold dg; split <;> omega

/-! ### zzIncrement36 at the digits of h, l -/
theorem inc_low (h l e : Int) (w : World) (l0 : 0 ≤ l) (l1 : l < 999999999999999999) :
    Calls Try.prog 18 #[.agg (A (dg h l)), .int .i32 e] w fun en w' => en = .returned (.tuple #[.agg (A (dg h (l + 1))), .int .i32 e]) ∧ ∃ c d, w' = (w.alloc (.cells c 41)).alloc (.cells d 41) := by
  rcases first_not (fun j => dv l j % 10 = 9) (fun j => inferInstance) 18 with hall | ⟨n, hn, h9, hne⟩
  · have := all_nine l l0 (by omega) hall; omega
  · have k : ∀ j, j < n → dg h l j = 9 := fun j hj => by simp only [dg, show j < 18 by omega, if_true]; exact h9 j hj
    have kn : dg h l n ≠ 9 := by simp only [dg, hn, if_true]; exact hne
    have := inc_at (dg h l) n e w (by omega) k kn (dg_bd h l n).1 (dg_bd h l n).2
    rw [bump_low h l n hn h9 hne] at this
    exact this
theorem inc_mid (h e : Int) (w : World) (h0 : 0 ≤ h) (h1 : h < 999999999999999999) :
    Calls Try.prog 18 #[.agg (A (dg h 999999999999999999)), .int .i32 e] w fun en w' => en = .returned (.tuple #[.agg (A (dg (h + 1) 0)), .int .i32 e]) ∧ ∃ c d, w' = (w.alloc (.cells c 41)).alloc (.cells d 41) := by
  rcases first_not (fun j => dv h j % 10 = 9) (fun j => inferInstance) 18 with hall | ⟨n, hn, h9, hne⟩
  · have := all_nine h h0 (by omega) hall; omega
  · have k : ∀ j, j < 18 + n → dg h 999999999999999999 j = 9 := fun j hj => by
      unfold dg
      by_cases e : j < 18
      · simp only [e, if_true]; exact nines j e
      · simp only [e, if_false]; exact h9 (j - 18) (by omega)
    have kn : dg h 999999999999999999 (18 + n) ≠ 9 := by simp only [dg, show ¬ 18 + n < 18 by omega, if_false, show 18 + n - 18 = n by omega]; exact hne
    have := inc_at (dg h 999999999999999999) (18 + n) e w (by omega) k kn (dg_bd h _ _).1 (dg_bd h _ _).2
    rw [bump_high h n hn h9 hne] at this
    exact this
theorem inc_top (e : Int) (w : World) :
    Calls Try.prog 18 #[.agg (A (dg 999999999999999999 999999999999999999)), .int .i32 e] w fun en w' => en = .returned (.tuple #[.agg (A (dg 100000000000000000 0)), .int .i32 (wrap32 (e + 1))]) ∧ ∃ c d, w' = (w.alloc (.cells c 41)).alloc (.cells d 41) := by
  have := inc_all (dg 999999999999999999 999999999999999999) e w (fun j hj => by
    unfold dg
    by_cases e : j < 18
    · simp only [e, if_true]; exact nines j e
    · simp only [e, if_false]; exact nines (j - 18) (by omega))
  rw [A_congr top_digits] at this
  exact this
end Go.Proofs.Qxb6603993a
