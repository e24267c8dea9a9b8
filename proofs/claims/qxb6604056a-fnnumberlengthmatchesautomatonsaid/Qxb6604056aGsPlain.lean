/-
  THE PLAIN LAW OF 'greatestSuffix': no Go in sight. 'f i': the byte at i (its negative where the order is reversed).
-/
namespace Go.Proofs.Qxb6604056a.Gs

/-- What holds at the head of each round. 'm = best + 1'. -/
structure Inv (f : Nat → Int) (n m j k p : Nat) : Prop where
  k1 : 1 ≤ k
  kp : k ≤ p
  ee : ∃ e, 1 ≤ e ∧ j + 1 = m + e * p
  jk : j + k ≤ n
  per : ∀ t, m ≤ t → t + p < j + k → f t = f (t + p)
  lyn : ∀ d, 0 < d → d < p → ∃ t, d + t < p ∧ (∀ u, u < t → f (m + d + u) = f (m + u)) ∧ f (m + d + t) < f (m + t)
  top : ∀ s, s < m → ∃ t, m + t < n ∧ (∀ u, u < t → f (s + u) = f (m + u)) ∧ f (s + t) < f (m + t)

theorem Inv.pm {f : Nat → Int} {n m j k p : Nat} (h : Inv f n m j k p) : ∀ r t, m ≤ t → t + r * p < j + k → f t = f (t + r * p)
  | 0, t, _, _ => by simp
  | r + 1, t, h1, h2 => by
    have e : (r + 1) * p = r * p + p := Nat.succ_mul r p
    rw [e] at h2
    have a := h.pm r t h1 (by omega)
    have b := h.per (t + r * p) (by omega) (by omega)
    rw [a, b, e, Nat.add_assoc]

theorem start (f : Nat → Int) (n : Nat) (hn : 1 ≤ n) : Inv f n 0 0 1 1 := {
  k1 := Nat.le_refl _
  kp := Nat.le_refl _
  ee := ⟨1, Nat.le_refl _, by omega⟩
  jk := by omega
  per := fun t _ h => by omega
  lyn := fun d h1 h2 => by omega
  top := fun s h => by omega }

theorem Inv.eqp {f : Nat → Int} {n m j k p : Nat} (h : Inv f n m j k p) (hlt : j + k < n) (e : f (j + k) = f (m + k - 1)) (hk : k = p) : Inv f n m (j + p) 1 p := {
  k1 := Nat.le_refl _
  kp := by have := h.k1; omega
  ee := by
    obtain ⟨e, h1, h2⟩ := h.ee
    exact ⟨e + 1, by omega, by rw [Nat.succ_mul]; omega⟩
  jk := by omega
  per := fun t h1 h2 => by
    by_cases hc : t + p < j + k
    · exact h.per t h1 hc
    · obtain ⟨e', e1, e2⟩ := h.ee
      obtain ⟨r, rfl⟩ : ∃ r, e' = r + 1 := ⟨e' - 1, by omega⟩
      rw [Nat.succ_mul] at e2
      have k1 := h.k1
      have q := h.pm r (m + k - 1) (by omega) (by omega)
      have e3 : m + k - 1 + r * p = t := by omega
      rw [e3] at q
      have e4 : t + p = j + k := by omega
      rw [e4, e, q]
  lyn := h.lyn
  top := h.top }

theorem Inv.eqn {f : Nat → Int} {n m j k p : Nat} (h : Inv f n m j k p) (hlt : j + k < n) (e : f (j + k) = f (m + k - 1)) (hk : k ≠ p) : Inv f n m j (k + 1) p := {
  k1 := by omega
  kp := by have := h.kp; omega
  ee := h.ee
  jk := by omega
  per := fun t h1 h2 => by
    by_cases hc : t + p < j + k
    · exact h.per t h1 hc
    · obtain ⟨e', e1, e2⟩ := h.ee
      obtain ⟨r, rfl⟩ : ∃ r, e' = r + 1 := ⟨e' - 1, by omega⟩
      rw [Nat.succ_mul] at e2
      have k1 := h.k1
      have kp := h.kp
      have q := h.pm r (m + k - 1) (by omega) (by omega)
      have e3 : m + k - 1 + r * p = t := by omega
      rw [e3] at q
      have e4 : t + p = j + k := by omega
      rw [e4, e, q]
  lyn := h.lyn
  top := h.top }

/-- A place d behind m: d = r * p + d'. -/
theorem parts (d p : Nat) (hp : 0 < p) : ∃ r d', d = r * p + d' ∧ d' < p :=
  ⟨d / p, d % p, by rw [Nat.mul_comm]; exact (Nat.div_add_mod d p).symm, Nat.mod_lt _ hp⟩

theorem Inv.lss {f : Nat → Int} {n m j k p : Nat} (h : Inv f n m j k p) (hlt : j + k < n) (e : f (j + k) < f (m + k - 1)) : Inv f n m (j + k) 1 (j + k + 1 - m) := by
  have k1 := h.k1
  have kp := h.kp
  obtain ⟨e', e1, e2⟩ := h.ee
  have hm : m ≤ j := by
    obtain ⟨r, rfl⟩ : ∃ r, e' = r + 1 := ⟨e' - 1, by omega⟩
    rw [Nat.succ_mul] at e2; omega
  refine ⟨Nat.le_refl _, by omega, ⟨1, Nat.le_refl _, by omega⟩, by omega, fun t h1 h2 => by omega, ?_, h.top⟩
  intro d hd0 hd
  obtain ⟨r, d', rfl, hd'⟩ := parts d p (by omega)
  by_cases hz : d' = 0
  · subst hz
    -- t0 = e'p + k - 1 - rp
    refine ⟨e' * p + k - 1 - (r * p + 0), by omega, ?_, ?_⟩
    · intro u hu
      have q := h.pm r (m + u) (by omega) (by omega)
      rw [q]; congr 1; omega
    · have hre : r ≤ e' := by
        rcases Nat.lt_or_ge e' r with hh | hh
        · have : (e' + 1) * p ≤ r * p := Nat.mul_le_mul_right p hh
          rw [Nat.succ_mul] at this; omega
        · exact hh
      have hr1 : 1 ≤ r := by
        rcases Nat.eq_zero_or_pos r with hh | hh
        · subst hh; simp at hd0
        · exact hh
      have hrp : p ≤ r * p := by have := Nat.mul_le_mul_right p hr1; omega
      obtain ⟨c, rfl⟩ : ∃ c, e' = r + c := ⟨e' - r, by omega⟩
      rw [Nat.add_mul] at e2 ⊢
      have q := h.pm c (m + k - 1) (by omega) (by omega)
      have a1 : m + (r * p + 0) + (r * p + c * p + k - 1 - (r * p + 0)) = j + k := by omega
      have a2 : m + (r * p + c * p + k - 1 - (r * p + 0)) = m + k - 1 + c * p := by omega
      rw [a1, a2, ← q]; exact e
  · obtain ⟨t, t1, t2, t3⟩ := h.lyn d' (by omega) hd'
    by_cases hc : m + (r * p + d') + t < j + k
    · refine ⟨t, by omega, ?_, ?_⟩
      · intro u hu
        have q := h.pm r (m + d' + u) (by omega) (by omega)
        have a1 : m + (r * p + d') + u = m + d' + u + r * p := by omega
        rw [a1, ← q]; exact t2 u hu
      · have q := h.pm r (m + d' + t) (by omega) (by omega)
        have a1 : m + (r * p + d') + t = m + d' + t + r * p := by omega
        rw [a1, ← q]; exact t3
    · -- the last byte stands at or ahead of the mismatch
      have hre : r = e' := by
        rcases Nat.lt_trichotomy r e' with hh | hh | hh
        · have : (r + 1) * p ≤ e' * p := Nat.mul_le_mul_right p hh
          rw [Nat.succ_mul] at this; omega
        · exact hh
        · have : (e' + 1) * p ≤ r * p := Nat.mul_le_mul_right p hh
          rw [Nat.succ_mul] at this; omega
      subst hre
      have hk' : d' ≤ k - 1 := by omega
      refine ⟨k - 1 - d', by omega, ?_, ?_⟩
      · intro u hu
        have q := h.pm r (m + d' + u) (by omega) (by omega)
        have a1 : m + (r * p + d') + u = m + d' + u + r * p := by omega
        rw [a1, ← q]; exact t2 u (by omega)
      · have a1 : m + (r * p + d') + (k - 1 - d') = j + k := by omega
        rw [a1]
        have a2 : m + k - 1 = m + d' + (k - 1 - d') := by omega
        rw [a2] at e
        rcases Nat.lt_or_ge (k - 1 - d') t with hh | hh
        · rw [t2 _ hh] at e; exact e
        · have a3 : k - 1 - d' = t := by omega
          rw [a3] at e ⊢; omega

theorem Inv.gtr {f : Nat → Int} {n m j k p : Nat} (h : Inv f n m j k p) (hlt : j + k < n) (e : f (m + k - 1) < f (j + k)) : Inv f n (j + 1) (j + 1) 1 1 := by
  have k1 := h.k1
  have kp := h.kp
  obtain ⟨e', e1, e2⟩ := h.ee
  refine ⟨Nat.le_refl _, Nat.le_refl _, ⟨1, Nat.le_refl _, by omega⟩, by omega, fun t h1 h2 => by omega, fun d h1 h2 => by omega, ?_⟩
  -- the suffixes that begin at m + r * p
  have back : ∀ u, u < k - 1 → f (j + 1 + u) = f (m + u) := fun u hu => by
    have q := h.pm e' (m + u) (by omega) (by omega)
    rw [q]; congr 1; omega
  intro s hs
  rcases Nat.lt_or_ge s m with hsm | hsm
  · obtain ⟨t, t1, t2, t3⟩ := h.top s hsm
    rcases Nat.lt_or_ge t (k - 1) with hh | hh
    · refine ⟨t, by omega, fun u hu => by rw [back u (by omega), t2 u hu], by rw [back t hh]; exact t3⟩
    · refine ⟨k - 1, by omega, fun u hu => by rw [back u hu, t2 u (by omega)], ?_⟩
      have a1 : j + 1 + (k - 1) = j + k := by omega
      have a2 : m + k - 1 = m + (k - 1) := by omega
      rw [a1]; rw [a2] at e
      rcases Nat.lt_or_ge (k - 1) t with h2 | h2
      · rw [t2 _ h2]; exact e
      · have a3 : k - 1 = t := by omega
        rw [a3] at e ⊢; omega
  · obtain ⟨r, d', hd, hd'⟩ := parts (s - m) p (by omega)
    have hsd : s = m + r * p + d' := by omega
    have a1 : j + 1 + (k - 1) = j + k := by omega
    have a2 : m + k - 1 = m + (k - 1) := by omega
    have hrl : r < e' := by
      rcases Nat.lt_or_ge r e' with hh | hh
      · exact hh
      · have := Nat.mul_le_mul_right p hh; omega
    have hrl2 : r * p + p ≤ e' * p := by
      have := Nat.mul_le_mul_right p hrl
      rw [Nat.succ_mul] at this; exact this
    by_cases hz : d' = 0
    · subst hz
      refine ⟨k - 1, by omega, ?_, ?_⟩
      · intro u hu
        have q := h.pm r (m + u) (by omega) (by omega)
        rw [back u hu, q]; congr 1; omega
      · have q := h.pm r (m + (k - 1)) (by omega) (by omega)
        have a3 : s + (k - 1) = m + (k - 1) + r * p := by omega
        rw [a1, a3, ← q]; rw [a2] at e; exact e
    · obtain ⟨t, t1, t2, t3⟩ := h.lyn d' (by omega) hd'
      have same : ∀ u, d' + u < p → f (s + u) = f (m + d' + u) := fun u hu => by
        have q := h.pm r (m + d' + u) (by omega) (by omega)
        rw [q]; congr 1; omega
      rcases Nat.lt_or_ge t (k - 1) with hh | hh
      · refine ⟨t, by omega, fun u hu => by rw [same u (by omega), t2 u hu, back u (by omega)], ?_⟩
        rw [same t t1, back t hh]; exact t3
      · refine ⟨k - 1, by omega, fun u hu => by rw [same u (by omega), t2 u (by omega), back u hu], ?_⟩
        rw [a1, same _ (by omega)]; rw [a2] at e
        rcases Nat.lt_or_ge (k - 1) t with h2 | h2
        · rw [t2 _ h2]; exact e
        · have a3 : k - 1 = t := by omega
          rw [a3] at e ⊢; omega

/-- At the end: no suffix that begins behind m is above the one at m: at the first place where the two part (if there is one) the one at m is the greater. -/
theorem Inv.behind {f : Nat → Int} {n m j k p : Nat} (h : Inv f n m j k p) (hend : j + k = n) (s : Nat) (h1 : m < s) (t : Nat) (ht : s + t < n) (hq : ∀ u, u < t → f (m + u) = f (s + u)) (hne : f (m + t) ≠ f (s + t)) :
    f (s + t) < f (m + t) := by
  have k1 := h.k1
  have kp := h.kp
  obtain ⟨r, d', hd, hd'⟩ := parts (s - m) p (by omega)
  have hsd : s = m + r * p + d' := by omega
  by_cases hz : d' = 0
  · subst hz
    have q := h.pm r (m + t) (by omega) (by omega)
    exact absurd (by rw [q]; congr 1; omega) hne
  · obtain ⟨t', t1, t2, t3⟩ := h.lyn d' (by omega) hd'
    have same : ∀ u, s + u < n → f (s + u) = f (m + d' + u) := fun u hu => by
      have q := h.pm r (m + d' + u) (by omega) (by omega)
      rw [q]; congr 1; omega
    rcases Nat.lt_trichotomy t t' with hh | hh | hh
    · exact absurd (by rw [same t ht, t2 t hh]) hne
    · subst hh; rw [same t ht]; exact t3
    · have := hq t' hh
      rw [same t' (by omega)] at this; omega

/-- The period holds over the whole suffix. -/
theorem Inv.periodic {f : Nat → Int} {n m j k p : Nat} (h : Inv f n m j k p) (hend : j + k = n) (i : Nat) (h1 : p ≤ i) (h2 : m + i < n) : f (m + i) = f (m + (i - p)) := by
  have := h.per (m + (i - p)) (by omega) (by omega)
  rw [this]; congr 1; omega
theorem Inv.fits {f : Nat → Int} {n m j k p : Nat} (h : Inv f n m j k p) (hend : j + k = n) : p ≤ n - m ∧ m < n := by
  have k1 := h.k1
  have kp := h.kp
  obtain ⟨e', e1, e2⟩ := h.ee
  obtain ⟨r, rfl⟩ : ∃ r, e' = r + 1 := ⟨e' - 1, by omega⟩
  rw [Nat.succ_mul] at e2; omega
/-- No smaller number is a period. -/
theorem Inv.least {f : Nat → Int} {n m j k p : Nat} (h : Inv f n m j k p) (hend : j + k = n) (q : Nat) (h1 : 0 < q) (h2 : q < p) : ∃ i, q ≤ i ∧ i < n - m ∧ f (m + i) ≠ f (m + (i - q)) := by
  obtain ⟨t, t1, t2, t3⟩ := h.lyn q h1 h2
  have := h.fits hend
  refine ⟨q + t, by omega, by omega, ?_⟩
  have a1 : m + (q + t) = m + q + t := by omega
  have a2 : m + (q + t - q) = m + t := by omega
  rw [a1, a2]; omega
/-- The measure. -/
theorem Inv.je {f : Nat → Int} {n m j k p : Nat} (h : Inv f n m j k p) : m + p ≤ j + 1 ∧ m ≤ j ∧ j < n := by
  have k1 := h.k1
  have kp := h.kp
  have jk := h.jk
  obtain ⟨e', e1, e2⟩ := h.ee
  obtain ⟨r, rfl⟩ : ∃ r, e' = r + 1 := ⟨e' - 1, by omega⟩
  rw [Nat.succ_mul] at e2; omega
end Go.Proofs.Qxb6604056a.Gs
