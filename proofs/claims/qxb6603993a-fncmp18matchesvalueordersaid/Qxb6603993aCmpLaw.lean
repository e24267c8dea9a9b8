import Derived.Test.Qxb6603993aCmp
namespace Go.Proofs.Qxb6603993a
open Go.RowKit
set_option linter.unusedVariables false

theorem ret_int {k : IntKind} {a b : Int} (h : a = b) : Ending.returned (.int k a) = .returned (.int k b) := by rw [h]
section
variable {xc xe yc ye : Int}
theorem mg_gt (h : ye < xe) : 1 = magE xc xe yc ye := by
  have h1 : (xe == ye) = false := by simp; omega
  simp [magE, h1, cmpB, h]
theorem mg_lt (h : xe < ye) : -1 = magE xc xe yc ye := by
  have h1 : (xe == ye) = false := by simp; omega
  have h2 : ¬ ye < xe := by omega
  simp [magE, h1, cmpB, h, h2]
theorem mg1 (h : 2 ≤ xe - ye) : 1 = magE xc xe yc ye := mg_gt (by omega)
theorem mg2 (h : xe - ye ≤ -2) : -1 = magE xc xe yc ye := mg_lt (by omega)
theorem mg3 (h : (xe - ye == 1) = true) : 1 = magE xc xe yc ye := mg_gt (by simp at h; omega)
theorem mg4 (h : (xe - ye == -1) = true) : -1 = magE xc xe yc ye := mg_lt (by simp at h; omega)
theorem mg_e (h1 : xe - ye < 2) (h2 : -2 < xe - ye) (h3 : (xe - ye == 1) = false) (h4 : (xe - ye == -1) = false) : magE xc xe yc ye = cmpB (decide (yc < xc)) (decide (xc < yc)) := by
  simp at h3 h4
  have : xe = ye := by omega
  simp [magE, this]
theorem mg5 (h1 : xe - ye < 2) (h2 : -2 < xe - ye) (h3 : (xe - ye == 1) = false) (h4 : (xe - ye == -1) = false) (h5 : yc < xc) : 1 = magE xc xe yc ye := by
  rw [mg_e h1 h2 h3 h4]; simp [cmpB, h5]
theorem mg6 (h1 : xe - ye < 2) (h2 : -2 < xe - ye) (h3 : (xe - ye == 1) = false) (h4 : (xe - ye == -1) = false) (h5 : xc < yc) : -1 = magE xc xe yc ye := by
  have h6 : ¬ yc < xc := by omega
  rw [mg_e h1 h2 h3 h4]; simp [cmpB, h5, h6]
theorem mg7 (h1 : xe - ye < 2) (h2 : -2 < xe - ye) (h3 : (xe - ye == 1) = false) (h4 : (xe - ye == -1) = false) (h5 : xc ≤ yc) (h6 : yc ≤ xc) : 0 = magE xc xe yc ye := by
  have h7 : ¬ yc < xc := by omega
  have h8 : ¬ xc < yc := by omega
  rw [mg_e h1 h2 h3 h4]; simp [cmpB, h7, h8]
end

set_option maxHeartbeats 1000000 in
theorem cmpMag (xc xe yc ye : Int) (w : World) (x1 : 100000000000000000 ≤ xc) (x2 : xc < 1000000000000000000) (y1 : 100000000000000000 ≤ yc) (y2 : yc < 1000000000000000000)
    (e1 : -2147483648 ≤ xe) (e2 : xe ≤ 2147483647) (f1 : -2147483648 ≤ ye) (f2 : ye ≤ 2147483647) :
    Calls Try.prog 24 #[.int .u64 xc, .int .i32 xe, .int .u64 yc, .int .i32 ye] w fun en w' => en = .returned (.int .i64 (magE xc xe yc ye)) ∧ w = w' := by
  go_enter Try.func24, Try.ntmps24
  go_wp2
  · go_ret; exact ⟨ret_int (mg1 ‹_›), rfl⟩
  · go_ret; exact ⟨ret_int (mg2 ‹_›), rfl⟩
  · go_ret; exact ⟨ret_int (mg3 ‹_›), rfl⟩
  · go_ret; exact ⟨ret_int (mg4 ‹_›), rfl⟩
  · go_ret; exact ⟨ret_int (mg5 ‹_› ‹_› ‹_› ‹_› ‹_›), rfl⟩
  · go_ret; exact ⟨ret_int (mg6 ‹_› ‹_› ‹_› ‹_› ‹_›), rfl⟩
  · go_ret; exact ⟨ret_int (mg7 ‹_› ‹_› ‹_› ‹_› ‹_› ‹_›), rfl⟩

/-- zzSign18. -/
def sgn (c : Int) (neg : Bool) : Int := if c == 0 then 0 else if neg then -1 else 1
theorem sign_any (c : Int) (neg : Bool) (w : World) : Calls Try.prog 23 #[.int .u64 c, .bool neg] w fun en w' => en = .returned (.int .i64 (sgn c neg)) ∧ w = w' := by
  unfold sgn
  cases neg
  all_goals
    by_cases h : (c == 0) = true
    · rw [h]
      go_enter Try.func23, Try.ntmps23
      go_wp2
      go_ret
      exact ⟨rfl, rfl⟩
    · rw [show (c == 0) = false by simpa using h]
      have h' : (c == 0) = false := by simpa using h
      go_enter Try.func23, Try.ntmps23
      go_wp2
      go_ret
      exact ⟨rfl, rfl⟩

set_option maxHeartbeats 1000000 in
theorem value_any (xc xe : Int) (xn : Bool) (yc ye : Int) (yn : Bool) (w : World) (hx : in18B xc xn = true) (hy : in18B yc yn = true)
    (e1 : -2147483648 ≤ xe) (e2 : xe ≤ 2147483647) (f1 : -2147483648 ≤ ye) (f2 : ye ≤ 2147483647) :
    Calls Try.prog 11 #[.int .u64 xc, .int .i32 xe, .bool xn, .int .u64 yc, .int .i32 ye, .bool yn] w fun en w' => en = .returned (.int .i64 (ord xc xe xn yc ye yn)) ∧ w = w' := by
  by_cases kx : (xc == 0) = true <;> by_cases ky : (yc == 0) = true
  · -- both are zero
    have sx : sgn xc xn = 0 := by simp [sgn, kx]
    have sy : sgn yc yn = 0 := by simp [sgn, ky]
    have nx : xn = false := by simpa [in18B, kx] using hx
    have ny : yn = false := by simpa [in18B, ky] using hy
    subst nx; subst ny
    have ho : ord xc xe false yc ye false = 0 := by simp [ord, kx, ky, cmpB]
    rw [ho]; clear ho hx hy kx ky
    go_enter Try.func11, Try.ntmps11
    go_wp2_with (go_at_call 23; refine (sign_any _ _ _).mono ?_; rintro en w' ⟨rfl, rfl⟩)
    go_ret
    exact ⟨rfl, rfl⟩
  · have ky' : (yc == 0) = false := by simpa using ky
    have sx : sgn xc xn = 0 := by simp [sgn, kx]
    have nx : xn = false := by simpa [in18B, kx] using hx
    subst nx
    cases yn
    · have sy : sgn yc false = 1 := by simp [sgn, ky']
      have ho : ord xc xe false yc ye false = -1 := by simp [ord, kx, ky', cmpB]
      rw [ho]; clear ho hx hy kx ky ky'
      go_enter Try.func11, Try.ntmps11
      go_wp2_with (go_at_call 23; refine (sign_any _ _ _).mono ?_; rintro en w' ⟨rfl, rfl⟩)
      go_ret
      exact ⟨rfl, rfl⟩
    · have sy : sgn yc true = -1 := by simp [sgn, ky']
      have ho : ord xc xe false yc ye true = 1 := by simp [ord]
      rw [ho]; clear ho hx hy kx ky ky'
      go_enter Try.func11, Try.ntmps11
      go_wp2_with (go_at_call 23; refine (sign_any _ _ _).mono ?_; rintro en w' ⟨rfl, rfl⟩)
      go_ret
      exact ⟨rfl, rfl⟩
  · have kx' : (xc == 0) = false := by simpa using kx
    have sy : sgn yc yn = 0 := by simp [sgn, ky]
    have ny : yn = false := by simpa [in18B, ky] using hy
    subst ny
    cases xn
    · have sx : sgn xc false = 1 := by simp [sgn, kx']
      have ho : ord xc xe false yc ye false = 1 := by simp [ord, kx', ky, cmpB]
      rw [ho]; clear ho hx hy kx ky kx'
      go_enter Try.func11, Try.ntmps11
      go_wp2_with (go_at_call 23; refine (sign_any _ _ _).mono ?_; rintro en w' ⟨rfl, rfl⟩)
      go_ret
      exact ⟨rfl, rfl⟩
    · have sx : sgn xc true = -1 := by simp [sgn, kx']
      have ho : ord xc xe true yc ye false = -1 := by simp [ord]
      rw [ho]; clear ho hx hy kx ky kx'
      go_enter Try.func11, Try.ntmps11
      go_wp2_with (go_at_call 23; refine (sign_any _ _ _).mono ?_; rintro en w' ⟨rfl, rfl⟩)
      go_ret
      exact ⟨rfl, rfl⟩
  · have kx' : (xc == 0) = false := by simpa using kx
    have ky' : (yc == 0) = false := by simpa using ky
    have bx : 100000000000000000 ≤ xc ∧ xc < 1000000000000000000 := by simpa [in18B, kx'] using hx
    have bY : 100000000000000000 ≤ yc ∧ yc < 1000000000000000000 := by simpa [in18B, ky'] using hy
    obtain ⟨m1, m2⟩ := magE_bd xc xe yc ye
    have M := fun w => cmpMag xc xe yc ye w bx.1 bx.2 bY.1 bY.2 e1 e2 f1 f2
    have HM := hide M; clear M
    cases xn <;> cases yn
    · have sx : sgn xc false = 1 := by simp [sgn, kx']
      have sy : sgn yc false = 1 := by simp [sgn, ky']
      have ho : ord xc xe false yc ye false = magE xc xe yc ye := by simp [ord, kx', ky']
      rw [ho]; clear ho hx hy kx ky kx' ky' bx bY
      go_enter Try.func11, Try.ntmps11
      go_wp2_with (first | (go_at_call 23; refine (sign_any _ _ _).mono ?_; rintro en w' ⟨rfl, rfl⟩) | (go_at_call 24; refine (unhide HM _).mono ?_; rintro en w' ⟨rfl, rfl⟩))
      go_ret
      exact ⟨rfl, rfl⟩
    · have sx : sgn xc false = 1 := by simp [sgn, kx']
      have sy : sgn yc true = -1 := by simp [sgn, ky']
      have ho : ord xc xe false yc ye true = 1 := by simp [ord]
      rw [ho]; clear ho hx hy kx ky kx' ky' bx bY
      go_enter Try.func11, Try.ntmps11
      go_wp2_with (first | (go_at_call 23; refine (sign_any _ _ _).mono ?_; rintro en w' ⟨rfl, rfl⟩) | (go_at_call 24; refine (unhide HM _).mono ?_; rintro en w' ⟨rfl, rfl⟩))
      go_ret
      exact ⟨rfl, rfl⟩
    · have sx : sgn xc true = -1 := by simp [sgn, kx']
      have sy : sgn yc false = 1 := by simp [sgn, ky']
      have ho : ord xc xe true yc ye false = -1 := by simp [ord]
      rw [ho]; clear ho hx hy kx ky kx' ky' bx bY
      go_enter Try.func11, Try.ntmps11
      go_wp2_with (first | (go_at_call 23; refine (sign_any _ _ _).mono ?_; rintro en w' ⟨rfl, rfl⟩) | (go_at_call 24; refine (unhide HM _).mono ?_; rintro en w' ⟨rfl, rfl⟩))
      go_ret
      exact ⟨rfl, rfl⟩
    · have sx : sgn xc true = -1 := by simp [sgn, kx']
      have sy : sgn yc true = -1 := by simp [sgn, ky']
      have ho : ord xc xe true yc ye true = - magE xc xe yc ye := by rw [← magE_flip]; simp [ord]
      rw [ho]; clear ho hx hy kx ky kx' ky' bx bY
      go_enter Try.func11, Try.ntmps11
      go_wp2_with (first | (go_at_call 23; refine (sign_any _ _ _).mono ?_; rintro en w' ⟨rfl, rfl⟩) | (go_at_call 24; refine (unhide HM _).mono ?_; rintro en w' ⟨rfl, rfl⟩))
      go_ret
      exact ⟨rfl, rfl⟩

set_option maxHeartbeats 1000000 in
theorem cmp_law (xc xe : Int) (xn : Bool) (yc ye : Int) (yn : Bool) (w : World)
    (e1 : -2147483648 ≤ xe) (e2 : xe ≤ 2147483647) (f1 : -2147483648 ≤ ye) (f2 : ye ≤ 2147483647) :
    Calls Try.prog 3 #[.int .u64 xc, .int .i32 xe, .bool xn, .int .u64 yc, .int .i32 ye, .bool yn] w fun en w' => en = .returned (.bool true) ∧ Grown w w' := by
  by_cases hx : in18B xc xn = true
  · by_cases hy : in18B yc yn = true
    · have V := fun w => value_any xc xe xn yc ye yn w hx hy e1 e2 f1 f2
      have C := fun w => cmp_any xc xe xn yc ye yn w hx hy
      have HV := hide V; have HC := hide C; clear V C e1 e2 f1 f2
      go_enter Try.func3, Try.ntmps3
      go_wp2_with (first | (go_at_call 8; refine (in18_any _ _ _).mono ?_; rintro en w' ⟨rfl, rfl⟩) | (go_at_call 9; refine (make18 _ _ _ _).mono ?_; rintro en w' ⟨rfl, d, rfl⟩) | (go_at_call 10; refine (unhide HC _).mono ?_; rintro en w' ⟨rfl, q⟩) | (go_at_call 11; refine (unhide HV _).mono ?_; rintro en w' ⟨rfl, rfl⟩))
      go_ret
      exact ⟨by simp, ((((Q.refl _).alloc _ _).alloc _ _).trans q).grown⟩
    · have hy' : in18B yc yn = false := by simpa using hy
      go_enter Try.func3, Try.ntmps3
      go_wp2_with (go_at_call 8; refine (in18_any _ _ _).mono ?_; rintro en w' ⟨rfl, rfl⟩)
      go_ret
      exact ⟨rfl, Grown.refl _⟩
  · have hx' : in18B xc xn = false := by simpa using hx
    go_enter Try.func3, Try.ntmps3
    go_wp2_with (go_at_call 8; refine (in18_any _ _ _).mono ?_; rintro en w' ⟨rfl, rfl⟩)
    go_ret
    exact ⟨rfl, Grown.refl _⟩
end Go.Proofs.Qxb6603993a
