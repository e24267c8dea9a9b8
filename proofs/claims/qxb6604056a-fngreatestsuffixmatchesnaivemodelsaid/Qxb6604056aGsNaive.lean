import Derived.Test.Qxb6604056aGsWalks
namespace Go.Proofs.Qxb6604056a
open Go.RowKit
set_option linter.unusedVariables false

theorem gs_zero (s : ByteArray) (rev : Bool) (w : World) (h0 : s.size = 0) :
    Calls Try.prog 18 #[.string s, .bool rev] w fun en w' => en = .returned (.tuple #[.int .i64 0, .int .i64 1]) ∧ w = w' := by
  go_enter Try.func18, Try.ntmps18
  go_wp2
  go_loop [5, 6, 7, 8] (fun pv bv jv kv => pv = .int .i64 1 ∧ bv = .int .i64 (-1) ∧ jv = .int .i64 0 ∧ kv = .int .i64 1) (fun _ _ _ _ => 0)
  case atStart => exact ⟨rfl, rfl, rfl, rfl⟩
  case round =>
    obtain ⟨rfl, rfl, rfl, rfl⟩ := hrel
    go_wp2
    go_ret2
    exact ⟨rfl, rfl⟩

/-- The suffix at x is less than the one at y, by a byte where they part. -/
def Mis (f : Nat → Int) (n x y : Nat) : Prop := ∃ t, y + t < n ∧ (∀ u, u < t → f (x + u) = f (y + u)) ∧ f (x + t) < f (y + t)
/-- What gsSuffixLess hands back. -/
def LessPost (rev : Bool) (s : ByteArray) (x y : Nat) (w : World) (en : Ending) (w' : World) : Prop := ∃ r, en = .returned (.bool r) ∧ (r = true → Mis (fv rev s) s.size x y) ∧ (r = false → ¬ Mis (fv rev s) s.size x y) ∧ w = w'

theorem no_mis {f : Nat → Int} {n x y i : Nat} (h : ∀ u, u < i → f (x + u) = f (y + u)) (hi : y + i < n → f (y + i) < f (x + i)) : ¬ Mis f n x y := by
  rintro ⟨t, t1, t2, t3⟩
  rcases Nat.lt_trichotomy t i with k | k | k
  · have := h t k; omega
  · subst k; have := hi t1; omega
  · have := t2 i k; have := hi (by omega); omega
theorem less_diff (rev : Bool) {s : ByteArray} {x y i : Nat} (w : World) (hx : x + i < s.size) (hy : y + i < s.size) (h : ((s[x + i].toNat : Int) != (s[y + i].toNat : Int)) = true) (HE : ∀ u, u < i → fv rev s (x + u) = fv rev s (y + u)) (r : Bool)
    (hr : r = if rev then decide ((s[y + i].toNat : Int) < (s[x + i].toNat : Int)) else decide ((s[x + i].toNat : Int) < (s[y + i].toNat : Int))) : LessPost rev s x y w (.returned (.bool r)) w := by
  have hne : (s[x + i].toNat : Int) ≠ (s[y + i].toNat : Int) := by simpa using h
  refine ⟨r, rfl, ?_, ?_, rfl⟩
  · intro e
    rw [hr] at e
    refine ⟨i, hy, HE, ?_⟩
    cases rev
    · rw [fv_f hx, fv_f hy]; simpa using e
    · rw [fv_t hx, fv_t hy]; have : (s[y + i].toNat : Int) < (s[x + i].toNat : Int) := by simpa using e
      omega
  · intro e
    rw [hr] at e
    refine no_mis (i := i) HE fun _ => ?_
    cases rev
    · rw [fv_f hx, fv_f hy]; have : ¬ (s[x + i].toNat : Int) < (s[y + i].toNat : Int) := by simpa using e
      omega
    · rw [fv_t hx, fv_t hy]; have : ¬ (s[y + i].toNat : Int) < (s[x + i].toNat : Int) := by simpa using e
      omega
theorem less_end (rev : Bool) {s : ByteArray} {x y i : Nat} (w : World) (hy : ¬ y + i < s.size) (HE : ∀ u, u < i → fv rev s (x + u) = fv rev s (y + u)) : LessPost rev s x y w (.returned (.bool false)) w :=
  ⟨false, rfl, (fun e => by cases e), fun _ => no_mis (i := i) HE fun k => absurd k hy, rfl⟩
theorem less_step (rev : Bool) {s : ByteArray} {x y i : Nat} (hx : x + i < s.size) (hy : y + i < s.size) (h : ((s[x + i].toNat : Int) != (s[y + i].toNat : Int)) = false) (HE : ∀ u, u < i → fv rev s (x + u) = fv rev s (y + u)) : ∀ u, u < i + 1 → fv rev s (x + u) = fv rev s (y + u) := by
  intro u hu
  rcases Nat.lt_or_ge u i with k | k
  · exact HE u k
  · obtain rfl : u = i := by omega
    have he : (s[x + u].toNat : Int) = (s[y + u].toNat : Int) := by simpa using h
    cases rev
    · rw [fv_f hx, fv_f hy, he]
    · rw [fv_t hx, fv_t hy, he]

set_option maxRecDepth 100000 in
set_option maxHeartbeats 1000000 in
theorem less_any (s : ByteArray) (x y : Nat) (rev : Bool) (w : World) (hxy : x < y) (hy : y < s.size) (h1 : s.size ≤ 4096) :
    Calls Try.prog 9 #[.string s, .int .i64 x, .int .i64 y, .bool rev] w (LessPost rev s x y w) := by
  go_enter Try.func9, Try.ntmps9
  go_wp2
  go_loop [10] (fun iv => ∃ i : Nat, y + i ≤ s.size ∧ iv = .int .i64 i ∧ Hid (∀ u, u < i → fv rev s (x + u) = fv rev s (y + u))) (fun iv => s.size - (intOf iv).toNat)
  case atStart => exact ⟨0, by omega, rfl, fun u hu => by omega⟩
  case round =>
    obtain ⟨i, hi, rfl, HE⟩ := hrel
    by_cases hlt : y + i < s.size
    · have hx' : (x : Int) + i < s.size := by omega
      have hy' : (y : Int) + i < s.size := by omega
      have hx2 : x + i < s.size := by omega
      cases rev
      all_goals
        go_wp2
        · go_ret
          exact less_diff _ w hx2 hlt ‹_› HE.out _ (by simp)
        · go_round
          case rel => exact ⟨i + 1, by omega, by go_num, less_step _ hx2 hlt ‹_› HE.out⟩
          case measure => simp [intOf]; omega
    · have hy' : ¬ (y : Int) + i < s.size := by omega
      have hx' : (x : Int) + i < s.size := by omega
      have hne : ((x : Int) + i == s.size) = false := beq_eq_false_iff_ne.2 (by omega)
      go_wp2
      go_ret
      exact less_end _ w hlt HE.out

/-- What gsHasPeriod hands back. -/
def PerPost (s : ByteArray) (p : Nat) (w : World) (en : Ending) (w' : World) : Prop := ∃ r, en = .returned (.bool r) ∧ (r = true → ∀ i, p ≤ i → i < s.size → bv s i = bv s (i - p)) ∧ (r = false → ∃ i, p ≤ i ∧ i < s.size ∧ bv s i ≠ bv s (i - p)) ∧ ∃ n, w' = w.drewN n
theorem per_no {s : ByteArray} {d p : Nat} (w : World) (q nq : Nat) (hd : d < s.size) (hdp : d + p < s.size) (h : ((s[d + p].toNat : Int) != (s[d].toNat : Int)) = true) : PerPost s p w (.returned (.bool false)) ((w.drewN q).drewN nq) :=
  ⟨false, rfl, (fun e => by cases e), fun _ => ⟨d + p, by omega, hdp, by rw [show d + p - p = d by omega, ← bv_at hdp, ← bv_at hd]; simpa using h⟩, _, World.drewN_drewN _ _ _⟩
theorem per_step {s : ByteArray} {d p : Nat} (hd : d < s.size) (hdp : d + p < s.size) (h : ((s[d + p].toNat : Int) != (s[d].toNat : Int)) = false) (HE : ∀ u, p ≤ u → u < d + p → bv s u = bv s (u - p)) : ∀ u, p ≤ u → u < d + p + 1 → bv s u = bv s (u - p) := by
  intro u h1 h2
  rcases Nat.lt_or_ge u (d + p) with k | k
  · exact HE u h1 k
  · obtain rfl : u = d + p := by omega
    rw [show d + p - p = d by omega, ← bv_at hdp, ← bv_at hd]; simpa using h
theorem per_yes {s : ByteArray} {i p : Nat} (w : World) (q : Nat) (hi : ¬ i < s.size) (HE : ∀ u, p ≤ u → u < i → bv s u = bv s (u - p)) : PerPost s p w (.returned (.bool true)) (w.drewN q) :=
  ⟨true, rfl, fun _ u h1 h2 => HE u h1 (by omega), (fun e => by cases e), _, rfl⟩

set_option maxRecDepth 100000 in
set_option maxHeartbeats 1000000 in
theorem per_any (s : ByteArray) (p : Nat) (w : World) (hp : 1 ≤ p) (h1 : s.size ≤ 4096) (hps : p ≤ s.size) :
    Calls Try.prog 10 #[.string s, .int .i64 p] w (PerPost s p w) := by
  go_enter Try.func10, Try.ntmps10
  go_wp2
  go_loopw [5] (fun iv wr => ∃ i q : Nat, p ≤ i ∧ i ≤ s.size ∧ iv = .int .i64 i ∧ wr = w.drewN q ∧ Hid (∀ u, p ≤ u → u < i → bv s u = bv s (u - p))) (fun iv _ => s.size - (intOf iv).toNat)
  case atStart => exact ⟨p, 0, by omega, hps, rfl, rfl, fun u h1 h2 => by omega⟩
  case round =>
    obtain ⟨i, q, hi, hi2, rfl, rfl, HE⟩ := hrel
    by_cases hlt : i < s.size
    · obtain ⟨d, rfl⟩ : ∃ d, i = d + p := ⟨i - p, by omega⟩
      have hd : d < s.size := by omega
      have e1 : ((d + p : Nat) : Int) - p = d := by omega
      have hw1 : IntKind.i64.wrap ((d : Int) + p - p) = (d : Int) := by simp [IntKind.wrap_i64]; omega
      have hw2 : IntKind.i64.wrap (((d + p : Nat) : Int) - p) = (d : Int) := by simp [IntKind.wrap_i64]; omega
      have hd' : (d : Int) < s.size := by omega
      have hdp : (d : Int) + p < s.size := by omega
      have hdp0 : (0 : Int) ≤ (d : Int) + p := by omega
      go_wp2
      go_quiet (fail)
      go_wp2
      · go_ret
        exact per_no w _ _ hd hlt ‹_›
      · go_roundw
        case rel => exact ⟨d + p + 1, _, by omega, by omega, by go_num, rfl, per_step hd hlt ‹_› HE.out⟩
        case measure => simp [intOf]; omega
    · go_wp2
      go_ret
      exact per_yes w _ hlt HE.out
end Go.Proofs.Qxb6604056a
