/-
  THE PLAIN LAW OF 'numberLength': no Go in sight. 'c i': the byte at i; 'n': how many there are.
-/
namespace Go.Proofs.Qxb6604056a.Nl

/-- A digit. -/
def Dg (x : Int) : Prop := 48 ≤ x ∧ x ≤ 57
/-- How many digits stand from i on. -/
def dl (c : Nat → Int) : Nat → Nat → Nat
  | 0, _ => 0
  | f + 1, i => if 48 ≤ c i ∧ c i ≤ 57 then dl c f (i + 1) + 1 else 0
theorem dl_le (c : Nat → Int) : ∀ f i, dl c f i ≤ f
  | 0, _ => Nat.le_refl _
  | f + 1, i => by
    unfold dl
    split
    · have := dl_le c f (i + 1); omega
    · omega
theorem dl_congr {c c' : Nat → Int} : ∀ f i i', (∀ u, u < f → c (i + u) = c' (i' + u)) → dl c f i = dl c' f i'
  | 0, _, _, _ => rfl
  | f + 1, i, i', h => by
    have h0 := h 0 (by omega)
    simp only [Nat.add_zero] at h0
    have ih := dl_congr (c := c) (c' := c') f (i + 1) (i' + 1) (fun u hu => by
      have := h (u + 1) (by omega)
      rw [show i + 1 + u = i + (u + 1) by omega, show i' + 1 + u = i' + (u + 1) by omega]; exact this)
    simp only [dl, h0, ih]
theorem dl_dg (c : Nat → Int) : ∀ f i u, u < dl c f i → Dg (c (i + u))
  | 0, _, _, h => by simp [dl] at h
  | f + 1, i, u, h => by
    unfold dl at h
    split at h
    · rename_i hd
      cases u with
      | zero => exact hd
      | succ u =>
        have := dl_dg c f (i + 1) u (by omega)
        rw [show i + 1 + u = i + (u + 1) by omega] at this
        exact this
    · omega
theorem dl_end (c : Nat → Int) : ∀ f i, dl c f i < f → ¬ Dg (c (i + dl c f i))
  | 0, _, h => by omega
  | f + 1, i, h => by
    unfold dl at h ⊢
    split
    · rename_i hd
      rw [if_pos hd] at h
      have := dl_end c f (i + 1) (by omega)
      rw [show i + 1 + dl c f (i + 1) = i + (dl c f (i + 1) + 1) by omega] at this
      exact this
    · rename_i hd
      exact hd

/-- One step of the automaton. -/
def step (str : Bool) (st c : Int) : Option Int :=
  if st = 0 then (if 48 ≤ c ∧ c ≤ 57 then some 1 else if c = 46 then (if str then some 3 else none) else none)
  else if st = 1 then (if 48 ≤ c ∧ c ≤ 57 then some 1 else if c = 46 then some 2 else if c = 101 ∨ c = 69 then some 5 else none)
  else if st = 2 then (if 48 ≤ c ∧ c ≤ 57 then some 4 else if c = 101 ∨ c = 69 then (if str then some 5 else none) else none)
  else if st = 3 then (if 48 ≤ c ∧ c ≤ 57 then some 4 else none)
  else if st = 4 then (if 48 ≤ c ∧ c ≤ 57 then some 4 else if c = 101 ∨ c = 69 then some 5 else none)
  else if st = 5 then (if c = 43 ∨ c = 45 then some 6 else if 48 ≤ c ∧ c ≤ 57 then some 7 else none)
  else if 48 ≤ c ∧ c ≤ 57 then some 7 else none
/-- The states that accept. -/
def acc (str : Bool) (st : Int) : Bool := decide (st = 1 ∨ st = 4 ∨ st = 7) || (decide (st = 2) && str)
/-- The automaton's run: what is left, the state, the place, the last place that was accepted. -/
def auto (c : Nat → Int) (str : Bool) : Nat → Int → Nat → Int → Int
  | 0, _, _, last => last
  | f + 1, st, i, last => match step str st (c i) with
    | none => last
    | some st' => auto c str f st' (i + 1) (if acc str st' then (i : Int) + 1 else last)

theorem auto_none {c : Nat → Int} {str : Bool} {f : Nat} {st : Int} {i : Nat} {last : Int} (h : step str st (c i) = none) : auto c str (f + 1) st i last = last := by
  simp [auto, h]
theorem auto_some {c : Nat → Int} {str : Bool} {f : Nat} {st st' : Int} {i : Nat} {last : Int} (h : step str st (c i) = some st') : auto c str (f + 1) st i last = auto c str f st' (i + 1) (if acc str st' then (i : Int) + 1 else last) := by
  simp [auto, h]

section
variable {c : Nat → Int} {str : Bool}

/-- In a state that loops over digits. -/
theorem run_digits {st : Int} (h : st = 1 ∨ st = 4 ∨ st = 7) : ∀ d f i (last : Int), (∀ u, u < d → Dg (c (i + u))) →
    auto c str (f + d) st i last = auto c str f st (i + d) (if d = 0 then last else ((i + d : Nat) : Int))
  | 0, f, i, last, _ => by simp
  | d + 1, f, i, last, hd => by
    have h0 : Dg (c i) := hd 0 (by omega)
    have hs : step str st (c i) = some st := by
      unfold Dg at h0
      rcases h with rfl | rfl | rfl
      · simp [step, h0]
      · simp [step, h0]
      · simp [step, h0]
    have ha : acc str st = true := by rcases h with rfl | rfl | rfl <;> simp [acc]
    have ih := run_digits h d f (i + 1) ((i : Int) + 1) (fun u hu => by rw [show i + 1 + u = i + (u + 1) by omega]; exact hd (u + 1) (by omega))
    show auto c str ((f + d) + 1) st i last = _
    rw [auto_some hs, ha, if_pos rfl, ih, show i + 1 + d = i + (d + 1) by omega]
    congr 1
    by_cases e : d = 0
    · subst e; simp
    · simp [e]
/-- The same from a state that has not yet met a digit: st goes to st' at a digit. -/
theorem into_digits {st st' : Int} (h' : st' = 1 ∨ st' = 4 ∨ st' = 7) (hst : ∀ x, Dg x → step str st x = some st') (d f i : Nat) (last : Int) (hd0 : 0 < d) (hd : ∀ u, u < d → Dg (c (i + u))) :
    auto c str (f + d) st i last = auto c str f st' (i + d) ((i + d : Nat) : Int) := by
  obtain ⟨e, rfl⟩ : ∃ e, d = e + 1 := ⟨d - 1, by omega⟩
  have hs := hst (c i) (hd 0 hd0)
  have ha : acc str st' = true := by rcases h' with rfl | rfl | rfl <;> simp [acc]
  show auto c str ((f + e) + 1) st i last = _
  rw [auto_some hs, ha, if_pos rfl, run_digits h' e f (i + 1) _ (fun u hu => by rw [show i + 1 + u = i + (u + 1) by omega]; exact hd (u + 1) (by omega)), show i + 1 + e = i + (e + 1) by omega]
  congr 1
  by_cases e0 : e = 0
  · subst e0; simp
  · simp [e0]

/-- What numberLength makes of the places behind the mantissa: where the exponent's digits begin. -/
def ev (c : Nat → Int) (n k : Nat) : Nat := if k < n ∧ (c k = 43 ∨ c k = 45) then k + 1 else k
def dfr (c : Nat → Int) (n k : Nat) : Nat := dl c (n - k) k
def expo (c : Nat → Int) (n m : Nat) : Nat :=
  if m < n ∧ (c m = 101 ∨ c m = 69) then (if 0 < dfr c n (ev c n (m + 1)) then ev c n (m + 1) + dfr c n (ev c n (m + 1)) else m) else m
def mant (str : Bool) (c : Nat → Int) (n : Nat) : Nat :=
  if dfr c n 0 < n ∧ c (dfr c n 0) = 46 then
    (if (0 < dfr c n 0 ∧ 0 < dfr c n (dfr c n 0 + 1)) ∨ (str = true ∧ 0 < dfr c n 0 + dfr c n (dfr c n 0 + 1)) then dfr c n 0 + (1 + dfr c n (dfr c n 0 + 1)) else dfr c n 0)
  else dfr c n 0
def nl (str : Bool) (c : Nat → Int) (n : Nat) : Nat := if mant str c n = 0 then 0 else expo c n (mant str c n)

theorem dfr_le (c : Nat → Int) (n k : Nat) : dfr c n k ≤ n - k := dl_le c _ _
theorem dfr_dg (c : Nat → Int) (n k u : Nat) (h : u < dfr c n k) : Dg (c (k + u)) := dl_dg c _ _ u h
theorem dfr_end (c : Nat → Int) (n k : Nat) (h : k + dfr c n k < n) : ¬ Dg (c (k + dfr c n k)) := dl_end c _ _ (by unfold dfr at h; omega)

/-- At the digits' end in state 7. -/
theorem seven_end (n p : Nat) (hp : p ≤ n) (hn : p < n → ¬ Dg (c p)) (last : Int) : auto c str (n - p) 7 p last = last := by
  rcases Nat.lt_or_ge p n with h | h
  · have := hn h
    unfold Dg at this
    rw [show n - p = (n - p - 1) + 1 by omega]
    exact auto_none (by simp only [step]; simp; omega)
  · rw [show n - p = 0 by omega]; rfl
/-- The exponent's digits, from a state that goes to 7 at a digit and stops at all else. -/
theorem exp_digits {st : Int} (n e : Nat) (he : e ≤ n) (hst : ∀ x, Dg x → step str st x = some 7) (hno : e < n → ¬ Dg (c e) → step str st (c e) = none) (last : Int) :
    auto c str (n - e) st e last = if 0 < dfr c n e then ((e + dfr c n e : Nat) : Int) else last := by
  have hl := dfr_le c n e
  by_cases hd : 0 < dfr c n e
  · rw [if_pos hd, show n - e = (n - (e + dfr c n e)) + dfr c n e by omega]
    rw [into_digits (.inr (.inr rfl)) hst (dfr c n e) _ e last hd (fun u hu => dfr_dg c n e u hu)]
    exact seven_end n _ (by omega) (fun h => dfr_end c n e h) _
  · rw [if_neg hd]
    rcases Nat.lt_or_ge e n with h | h
    · have h0 : ¬ Dg (c e) := by have := dfr_end c n e (by omega); rw [show e + dfr c n e = e by omega] at this; exact this
      rw [show n - e = (n - e - 1) + 1 by omega]
      exact auto_none (hno h h0)
    · rw [show n - e = 0 by omega]; rfl
/-- Behind an e. -/
theorem five (n k : Nat) (hk : k ≤ n) (last : Int) : auto c str (n - k) 5 k last = if 0 < dfr c n (ev c n k) then ((ev c n k + dfr c n (ev c n k) : Nat) : Int) else last := by
  unfold ev
  by_cases h : k < n ∧ (c k = 43 ∨ c k = 45)
  · rw [if_pos h]
    obtain ⟨h1, h2⟩ := h
    rw [show n - k = (n - (k + 1)) + 1 by omega, auto_some (st' := 6) (by simp [step, h2])]
    rw [show acc str 6 = false by simp [acc]]
    simp only [Bool.false_eq_true, if_false]
    exact exp_digits n (k + 1) (by omega) (fun x hx => by unfold Dg at hx; simp [step, hx]) (fun _ hx => by unfold Dg at hx; simp only [step]; simp; omega) last
  · rw [if_neg h]
    refine exp_digits n k hk (fun x hx => ?_) (fun hlt hx => ?_) last
    · unfold Dg at hx
      simp only [step]
      simp [hx]
      omega
    · have h2 : ¬ (c k = 43 ∨ c k = 45) := fun e => h ⟨hlt, e⟩
      unfold Dg at hx
      simp [step, h2, hx]
/-- Behind the mantissa. -/
theorem tail (st : Int) (n m : Nat) (hm : m ≤ n) (hst : m < n → step str st (c m) = if c m = 101 ∨ c m = 69 then some 5 else none) : auto c str (n - m) st m (m : Int) = (expo c n m : Int) := by
  unfold expo
  rcases Nat.lt_or_ge m n with h | h
  · have hs := hst h
    by_cases he : c m = 101 ∨ c m = 69
    · rw [if_pos he] at hs
      rw [if_pos ⟨h, he⟩, show n - m = (n - (m + 1)) + 1 by omega, auto_some hs, show acc str 5 = false by simp [acc]]
      simp only [Bool.false_eq_true, if_false]
      rw [five n (m + 1) (by omega)]
      split <;> rfl
    · rw [if_neg he] at hs
      rw [if_neg (fun e => he e.2), show n - m = (n - (m + 1)) + 1 by omega, auto_none hs]
  · rw [if_neg (fun e => by omega), show n - m = 0 by omega]; rfl

theorem step_dg {st st' : Int} {x : Int} (h : Dg x) (e : (st = 0 ∧ st' = 1) ∨ (st = 2 ∧ st' = 4) ∨ (st = 3 ∧ st' = 4)) : step str st x = some st' := by
  unfold Dg at h
  rcases e with ⟨rfl, rfl⟩ | ⟨rfl, rfl⟩ | ⟨rfl, rfl⟩ <;> simp [step, h]

theorem mant_plain {n d1 : Nat} (h1 : dfr c n 0 = d1) (h : ¬ (d1 < n ∧ c d1 = 46)) : mant str c n = d1 := by
  unfold mant; rw [h1, if_neg h]
theorem mant_yes {n d1 d2 : Nat} (h1 : dfr c n 0 = d1) (h2 : dfr c n (d1 + 1) = d2) (h : d1 < n ∧ c d1 = 46) (k : (0 < d1 ∧ 0 < d2) ∨ (str = true ∧ 0 < d1 + d2)) : mant str c n = d1 + (1 + d2) := by
  unfold mant; rw [h1, h2, if_pos h, if_pos k]
theorem mant_no {n d1 d2 : Nat} (h1 : dfr c n 0 = d1) (h2 : dfr c n (d1 + 1) = d2) (h : d1 < n ∧ c d1 = 46) (k : ¬ ((0 < d1 ∧ 0 < d2) ∨ (str = true ∧ 0 < d1 + d2))) : mant str c n = d1 := by
  unfold mant; rw [h1, h2, if_pos h, if_neg k]
theorem nl_zero {n : Nat} (h : mant str c n = 0) : nl str c n = 0 := by unfold nl; rw [if_pos h]
theorem nl_more {n m : Nat} (h : mant str c n = m) (hm : m ≠ 0) : nl str c n = expo c n m := by unfold nl; rw [h, if_neg hm]

theorem law (n : Nat) : auto c str n 0 0 0 = (nl str c n : Int) := by
  have l1 := dfr_le c n 0
  have g1 := dfr_dg c n 0
  have e1 := dfr_end c n 0
  obtain ⟨d1, hd1⟩ : ∃ d1, dfr c n 0 = d1 := ⟨_, rfl⟩
  have l2 := dfr_le c n (d1 + 1)
  have g2 := dfr_dg c n (d1 + 1)
  have e2 := dfr_end c n (d1 + 1)
  obtain ⟨d2, hd2⟩ : ∃ d2, dfr c n (d1 + 1) = d2 := ⟨_, rfl⟩
  rw [hd1] at l1 g1 e1
  rw [hd2] at l2 g2 e2
  simp only [Nat.zero_add, Nat.sub_zero] at l1 g1 e1
  by_cases z1 : d1 = 0
  · -- no digit at the head
    subst z1
    by_cases hdot : 0 < n ∧ c 0 = 46
    · obtain ⟨hn, hc⟩ := id hdot
      cases str
      · -- a literal
        rw [nl_zero (mant_no hd1 hd2 hdot (by simp)), show n = (n - 1) + 1 by omega, auto_none (by simp [step, hc])]; rfl
      · by_cases z2 : d2 = 0
        · subst z2
          rw [nl_zero (mant_no hd1 hd2 hdot (by simp))]
          rw [show n = (n - 1) + 1 by omega, auto_some (st' := 3) (by simp [step, hc])]
          rw [show acc true 3 = false by simp [acc]]
          simp only [Bool.false_eq_true, if_false]
          rcases Nat.lt_or_ge 1 n with h | h
          · have h0 := e2 (by omega)
            unfold Dg at h0
            rw [show n - 1 = (n - 2) + 1 by omega, auto_none (by simp only [step]; simp at h0 ⊢; exact h0)]; rfl
          · rw [show n - 1 = 0 by omega]; rfl
        · rw [nl_more (mant_yes hd1 hd2 hdot (.inr ⟨rfl, by omega⟩)) (by omega)]
          have := tail (c := c) (str := true) 4 n (0 + (1 + d2)) (by omega) (fun h => by
            have h0 := e2 (by omega)
            simp only [Nat.zero_add] at h0 ⊢
            unfold Dg at h0
            simp [step, h0])
          rw [← this]
          have hn1 : auto c true n 0 0 0 = auto c true (n - 1) 3 (0 + 1) 0 := by
            have e : n = (n - 1) + 1 := by omega
            rw [e, auto_some (st' := 3) (by simp [step, hc]), show acc true 3 = false by simp [acc]]
            simp
          rw [hn1, show n - 1 = (n - (0 + (1 + d2))) + d2 by omega]
          rw [into_digits (st' := 4) (.inr (.inl rfl)) (fun x hx => step_dg hx (.inr (.inr ⟨rfl, rfl⟩))) d2 _ (0 + 1) 0 (by omega) (fun u hu => g2 u hu)]
          simp only [Nat.zero_add]
    · rw [nl_zero (mant_plain hd1 hdot)]
      rcases Nat.lt_or_ge 0 n with h | h
      · have h0 := e1 h
        have h2 : ¬ c 0 = 46 := fun e => hdot ⟨h, e⟩
        unfold Dg at h0
        rw [show n = (n - 1) + 1 by omega, auto_none (by simp [step, h0, h2])]; rfl
      · rw [show n = 0 by omega]; rfl
  · -- digits at the head: state 1 behind them
    have head : auto c str n 0 0 0 = auto c str (n - d1) 1 d1 (d1 : Int) := by
      have := into_digits (c := c) (str := str) (st := 0) (st' := 1) (.inl rfl) (fun x hx => step_dg hx (.inl ⟨rfl, rfl⟩)) d1 (n - d1) 0 0 (by omega) (fun u hu => by rw [Nat.zero_add]; exact g1 u hu)
      rw [Nat.zero_add, show n - d1 + d1 = n by omega] at this
      exact this
    rw [head]
    by_cases hdot : d1 < n ∧ c d1 = 46
    · obtain ⟨hn, hc⟩ := id hdot
      rw [show n - d1 = (n - (d1 + 1)) + 1 by omega, auto_some (st' := 2) (by simp [step, hc])]
      by_cases z2 : d2 = 0
      · subst z2
        cases str
        · rw [nl_more (mant_no hd1 hd2 hdot (by simp)) z1]
          rw [show acc false 2 = false by simp [acc]]
          simp only [Bool.false_eq_true, if_false]
          have hx : expo c n d1 = d1 := by unfold expo; rw [if_neg (by omega)]
          rw [hx]
          rcases Nat.lt_or_ge (d1 + 1) n with h | h
          · have h0 := e2 (by omega)
            unfold Dg at h0
            rw [Nat.add_zero] at h0
            rw [show n - (d1 + 1) = (n - (d1 + 2)) + 1 by omega, auto_none (by simp [step, h0])]
          · rw [show n - (d1 + 1) = 0 by omega]; rfl
        · rw [nl_more (mant_yes hd1 hd2 hdot (.inr ⟨rfl, by omega⟩)) (by omega)]
          rw [show acc true 2 = true by simp [acc]]
          simp only [if_true]
          have := tail (c := c) (str := true) 2 n (d1 + 1) (by omega) (fun h => by
            have h0 := e2 (by omega)
            rw [Nat.add_zero] at h0
            unfold Dg at h0
            simp [step, h0])
          rw [show d1 + (1 + 0) = d1 + 1 by omega, ← this]
          rfl
      · rw [nl_more (mant_yes hd1 hd2 hdot (.inl ⟨by omega, by omega⟩)) (by omega)]
        have := tail (c := c) (str := str) 4 n (d1 + (1 + d2)) (by omega) (fun h => by
          have h0 := e2 (by omega)
          rw [show d1 + 1 + d2 = d1 + (1 + d2) by omega] at h0
          unfold Dg at h0
          simp [step, h0])
        rw [← this, show n - (d1 + 1) = (n - (d1 + (1 + d2))) + d2 by omega]
        rw [into_digits (st' := 4) (.inr (.inl rfl)) (fun x hx => step_dg hx (.inr (.inl ⟨rfl, rfl⟩))) d2 _ (d1 + 1) _ (by omega) (fun u hu => g2 u hu)]
        rw [show d1 + 1 + d2 = d1 + (1 + d2) by omega]
    · rw [nl_more (mant_plain hd1 hdot) z1]
      exact tail 1 n d1 (by omega) (fun h => by
        have h0 := e1 h
        have h2 : ¬ c d1 = 46 := fun e => hdot ⟨h, e⟩
        unfold Dg at h0
        simp [step, h0, h2])
end
end Go.Proofs.Qxb6604056a.Nl
