import Derived.Test.Qxb6604056aGsNaive
namespace Go.Proofs.Qxb6604056a
open Go.RowKit
set_option linter.unusedVariables false

theorem Grown.drewN {a w : World} (h : Grown a w) (n : Nat) : Grown a (w.drewN n) := h

theorem bytes7 (s : ByteArray) (rev : Bool) (w : World) (hs : s.size ≤ maxLen) : Calls Try.prog 7 #[.string s, .bool rev] w fun en w' => en = .returned (.bool (decide (s.size ≤ 1048576))) ∧ w = w' := by
  unfold maxLen at hs
  by_cases h : s.size ≤ 1048576
  · rw [decide_eq_true h]
    go_enter Try.func7, Try.ntmps7
    go_wp2
    go_ret
    exact ⟨rfl, rfl⟩
  · rw [decide_eq_false h]
    go_enter Try.func7, Try.ntmps7
    go_wp2
    go_ret
    exact ⟨rfl, rfl⟩

/-- What ZZgreatestSuffix hands back. -/
def GsPost (rev : Bool) (s : ByteArray) (w : World) (en : Ending) (w' : World) : Prop := ∃ m j k p : Nat, en = .returned (.tuple #[.int .i64 m, .int .i64 p]) ∧ Gs.Inv (fv rev s) s.size m j k p ∧ j + k = s.size ∧ ∃ n, w' = w.drewN n
theorem gs8 (s : ByteArray) (rev : Bool) (w : World) (h0 : 1 ≤ s.size) (h1 : s.size ≤ 4096) : Calls Try.prog 8 #[.string s, .bool rev] w (GsPost rev s w) := by
  have C : ∀ w, Calls Try.prog 18 #[.string s, .bool rev] w (GsPost rev s w) := fun w => by
    cases rev
    · exact gs_false s w h0 h1
    · exact gs_true s w h0 h1
  have HC := hide C; clear C
  go_enter Try.func8, Try.ntmps8
  go_wp2_with (go_at_call 18; refine (unhide HC _).mono ?_; rintro en w' ⟨m, j, k, p, rfl, HI, hjk, n, rfl⟩; have HJ := hide HI; clear HI)
  go_ret2
  exact ⟨m, j, k, p, rfl, HJ.out, hjk, n, rfl⟩
theorem gs8_zero (s : ByteArray) (rev : Bool) (w : World) (h0 : s.size = 0) : Calls Try.prog 8 #[.string s, .bool rev] w fun en w' => en = .returned (.tuple #[.int .i64 0, .int .i64 1]) ∧ w = w' := by
  have HC := hide (fun w => gs_zero s rev w h0)
  clear h0
  go_enter Try.func8, Try.ntmps8
  go_wp2_with (go_at_call 18; refine (unhide HC _).mono ?_; rintro en w' ⟨rfl, rfl⟩)
  go_ret2
  exact ⟨rfl, rfl⟩

theorem law_big (s : ByteArray) (rev : Bool) (w : World) (hs : s.size ≤ maxLen) (h : ¬ s.size ≤ 4096) : Calls Try.prog 3 #[.string s, .bool rev] w fun en w' => en = .returned (.bool true) ∧ Grown w w' := by
  have HC := hide (fun w => bytes7 s rev w hs)
  unfold maxLen at hs
  by_cases h2 : s.size ≤ 1048576
  · rw [decide_eq_true h2] at HC
    go_enter Try.func3, Try.ntmps3
    go_wp2_with (go_at_call 7; refine (unhide HC _).mono ?_; rintro en w' ⟨rfl, rfl⟩)
    go_ret
    exact ⟨rfl, Grown.refl _⟩
  · rw [decide_eq_false h2] at HC
    go_enter Try.func3, Try.ntmps3
    go_wp2_with (go_at_call 7; refine (unhide HC _).mono ?_; rintro en w' ⟨rfl, rfl⟩)
    go_ret
    exact ⟨rfl, Grown.refl _⟩

set_option maxRecDepth 100000 in
set_option maxHeartbeats 1000000 in
theorem law_zero (s : ByteArray) (rev : Bool) (w : World) (h0 : s.size = 0) : Calls Try.prog 3 #[.string s, .bool rev] w fun en w' => en = .returned (.bool true) ∧ Grown w w' := by
  have HC := hide (fun w => bytes7 s rev w (by rw [h0]; unfold maxLen; omega))
  rw [decide_eq_true (show s.size ≤ 1048576 by omega)] at HC
  have HG := hide (fun w => gs8_zero s rev w h0)
  go_enter Try.func3, Try.ntmps3
  go_wp2_with (first | (go_at_call 7; refine (unhide HC _).mono ?_; rintro en w' ⟨rfl, rfl⟩) | (go_at_call 8; refine (unhide HG _).mono ?_; rintro en w' ⟨rfl, rfl⟩))
  go_loop [7, 8] (fun bv xv => bv = .int .i64 0 ∧ xv = .int .i64 1) (fun _ _ => 0)
  case atStart => exact ⟨rfl, rfl⟩
  case round =>
    obtain ⟨rfl, rfl⟩ := hrel
    go_wp2
    go_loop [10] (fun pv => pv = .int .i64 1) (fun _ => 0)
    case atStart => rfl
    case round =>
      subst hrel
      go_wp2
      go_ret
      exact ⟨rfl, Grown.refl _⟩

theorem ex_bv (s : ByteArray) (m i : Nat) (h : m + i < s.size) : bv (s.extract m s.size) i = bv s (m + i) := by
  have hs : (s.extract m s.size).size = s.size - m := by simp
  have h1 : i < (s.extract m s.size).size := by omega
  have e : (s.extract m s.size)[i] = s[m + i] := ByteArray.getElem_extract h1
  rw [← bv_at h1, ← bv_at h, e]
theorem fv_inj {rev : Bool} {s : ByteArray} {a b : Nat} (h : fv rev s a = fv rev s b) : bv s a = bv s b := by
  cases rev
  · simpa [fv] using h
  · simp [fv] at h; omega
theorem fv_of {rev : Bool} {s : ByteArray} {a b : Nat} (h : bv s a = bv s b) : fv rev s a = fv rev s b := by
  simp [fv, h]
section
variable {rev : Bool} {s v : ByteArray} {m j k p q b x : Nat} {r : Bool}
theorem per_small (HJ : Gs.Inv (fv rev s) s.size m j k p) (hjk : j + k = s.size) (hv : v = s.extract m s.size) (h1 : 1 ≤ q) (h2 : q < p)
    (HT : r = true → ∀ i, q ≤ i → i < v.size → bv v i = bv v (i - q)) : r = false := by
  cases r
  · rfl
  · obtain ⟨i, i1, i2, i3⟩ := HJ.least hjk q h1 h2
    have hs : v.size = s.size - m := by rw [hv]; simp
    have := HT rfl i i1 (by omega)
    rw [hv, ex_bv s m i (by omega), ex_bv s m (i - q) (by omega)] at this
    exact absurd (fv_of this) i3
theorem per_big (HJ : Gs.Inv (fv rev s) s.size m j k p) (hjk : j + k = s.size) (hv : v = s.extract m s.size)
    (HF : r = false → ∃ i, p ≤ i ∧ i < v.size ∧ bv v i ≠ bv v (i - p)) : r = true := by
  cases r
  · obtain ⟨i, i1, i2, i3⟩ := HF rfl
    have hs : v.size = s.size - m := by rw [hv]; simp
    rw [hv, ex_bv s m i (by omega), ex_bv s m (i - p) (by omega)] at i3
    exact absurd (fv_inj (HJ.periodic hjk i i1 (by omega))) i3
  · rfl
/-- The naive search's step where the new suffix is the greater. -/
theorem nv_yes (HJ : Gs.Inv (fv rev s) s.size m j k p) (hjk : j + k = s.size) (hbx : b < x) (HB : m < x → b = m) (hlt : x < s.size) (HT : r = true → Mis (fv rev s) s.size b x) (hr : r = true) : x ≤ m := by
  rcases Nat.lt_or_ge m x with h | h
  · obtain rfl := HB h
    obtain ⟨t, t1, t2, t3⟩ := HT hr
    have := HJ.behind hjk x h t t1 t2 (by omega)
    omega
  · exact h
theorem nv_no (HJ : Gs.Inv (fv rev s) s.size m j k p) (hbx : b < x) (HB : m < x → b = m) (HF : r = false → ¬ Mis (fv rev s) s.size b x) (hr : r = false) : m < x + 1 → b = m := by
  intro h
  rcases Nat.lt_or_ge m x with h2 | h2
  · exact HB h2
  · obtain rfl : x = m := by omega
    exact absurd (HJ.top b hbx) (HF hr)
end

set_option maxRecDepth 100000 in
set_option maxHeartbeats 1000000 in
theorem law_main (s : ByteArray) (rev : Bool) (w : World) (h0 : 1 ≤ s.size) (h1 : s.size ≤ 4096) : Calls Try.prog 3 #[.string s, .bool rev] w fun en w' => en = .returned (.bool true) ∧ Grown w w' := by
  have HC := hide (fun w => bytes7 s rev w (by unfold maxLen; omega))
  rw [decide_eq_true (show s.size ≤ 1048576 by omega)] at HC
  have HG := hide (fun w => gs8 s rev w h0 h1)
  go_enter Try.func3, Try.ntmps3
  go_wp2_with (first | (go_at_call 7; refine (unhide HC _).mono ?_; rintro en w' ⟨rfl, rfl⟩) | (go_at_call 8; refine (unhide HG _).mono ?_; rintro en w' ⟨m, j, k, p, rfl, HI, hjk, n, rfl⟩; have HJ := hide HI; have HK := hide hjk; clear HI hjk))
  have hm := HJ.out.fits HK.out
  have hm1 : m < s.size := hm.2
  have hp1 : 1 ≤ p := Nat.le_trans HJ.out.k1 HJ.out.kp
  have hp2 : m + p ≤ s.size := by omega
  clear hm
  go_loop [7, 8] (fun bv xv => ∃ b x : Nat, 1 ≤ x ∧ x ≤ s.size ∧ b < x ∧ b ≤ m ∧ Hid (m < x → b = m) ∧ bv = .int .i64 b ∧ xv = .int .i64 x) (fun _ xv => s.size - (intOf xv).toNat)
  case atStart => exact ⟨0, 1, by omega, h0, by omega, by omega, fun h => by omega, rfl, rfl⟩
  case round =>
    obtain ⟨b, x, hx1, hx2, hbx, hbm, HB, rfl, rfl⟩ := hrel
    by_cases hlt : x < s.size
    · go_wp2_with (go_at_call 9; refine (less_any _ _ _ _ _ hbx hlt h1).mono ?_; rintro en w' ⟨r, rfl, HT, HF, rfl⟩; have H1 := hide HT; have H2 := hide HF; clear HT HF)
      · go_round
        case rel => exact ⟨x, x + 1, by omega, by omega, by omega, nv_yes HJ.out HK.out hbx HB.out hlt H1.out ‹_›, fun h => by have := nv_yes HJ.out HK.out hbx HB.out hlt H1.out ‹_›; omega, rfl, by go_num⟩
        case measure => simp [intOf]; omega
      · go_round
        case rel => exact ⟨b, x + 1, by omega, by omega, by omega, hbm, nv_no HJ.out hbx HB.out H2.out ‹_›, rfl, by go_num⟩
        case measure => simp [intOf]; omega
    · obtain rfl : m = b := (HB.out (by omega)).symm
      clear HB hbm
      go_wp2
      obtain ⟨v, HV⟩ : ∃ v, Hid (v = s.extract m s.size) := ⟨_, rfl⟩
      rw [show s.extract m s.size = v from HV.out.symm]
      have hvs : v.size + m = s.size := by rw [HV.out]; simp; omega
      go_loopw [10] (fun pv wr => ∃ q c : Nat, 1 ≤ q ∧ q ≤ p ∧ pv = .int .i64 q ∧ wr = w.drewN c) (fun pv _ => p - (intOf pv).toNat)
      case atStart => exact ⟨1, n, by omega, hp1, rfl, rfl⟩
      case round =>
        obtain ⟨q, c, hq1, hq2, rfl, rfl⟩ := hrel
        by_cases hq : q < p
        · have hqv : q < v.size := by omega
          go_wp2_with (go_at_call 10; refine (per_any _ _ _ hq1 (by omega) (by omega)).mono ?_; rintro en w' ⟨r, rfl, HT, HF, c', rfl⟩; have hr := per_small HJ.out HK.out HV.out hq1 hq HT; clear HT HF; subst hr)
          go_roundw
          case rel => exact ⟨q + 1, _, by omega, by omega, by go_num, rfl⟩
          case measure => simp [intOf]; omega
        · obtain rfl : q = p := by omega
          by_cases hqv : q < v.size
          · go_wp2_with (go_at_call 10; refine (per_any _ _ _ hq1 (by omega) (by omega)).mono ?_; rintro en w' ⟨r, rfl, HT, HF, c', rfl⟩; have hr := per_big HJ.out HK.out HV.out HF; clear HT HF; subst hr)
            go_ret
            exact ⟨by simp, by repeat (first | exact Grown.refl _ | apply Grown.drewN)⟩
          · go_wp2
            go_ret
            exact ⟨by simp, by repeat (first | exact Grown.refl _ | apply Grown.drewN)⟩

theorem gs_law (s : ByteArray) (rev : Bool) (w : World) (hs : s.size ≤ maxLen) : Calls Try.prog 3 #[.string s, .bool rev] w fun en w' => en = .returned (.bool true) ∧ Grown w w' := by
  by_cases h : s.size ≤ 4096
  · by_cases h0 : s.size = 0
    · exact law_zero s rev w h0
    · exact law_main s rev w (by omega) h
  · exact law_big s rev w hs h
end Go.Proofs.Qxb6604056a
