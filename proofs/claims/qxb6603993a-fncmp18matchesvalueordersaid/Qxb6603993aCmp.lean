import Derived.Test.Qxb6603993aWalks
import Derived.Deep.RegionWith
namespace Go.Proofs.Qxb6603993a
open Go.RowKit
set_option linter.unusedVariables false

/-- zzIn18, as a Bool. -/
def in18B (c : Int) (neg : Bool) : Bool := if c == 0 then !neg else (decide (100000000000000000 ≤ c) && decide (c < 1000000000000000000))

theorem in18_any (c : Int) (neg : Bool) (w : World) : Calls Try.prog 8 #[.int .u64 c, .bool neg] w fun en w' => en = .returned (.bool (in18B c neg)) ∧ w = w' := by
  unfold in18B
  go_enter Try.func8, Try.ntmps8
  go_wp2
  all_goals (go_ret; exact ⟨by first | (simp [*]; done) | (simp [*]; omega), rfl⟩)

theorem make18 (c e : Int) (neg : Bool) (w : World) : Calls Try.prog 9 #[.int .u64 c, .int .i32 e, .bool neg] w fun en w' =>
    en = .returned (.agg #[.int .u64 c, .int .i32 e, .bool neg]) ∧ ∃ d, w' = w.alloc (.cells d 25) := by
  go_enter Try.func9, Try.ntmps9
  go_wp2
  exact bodyPost_ret (v := .agg #[.int .u64 c, .int .i32 e, .bool neg]) (by simp [results, Try.results9, go_sem]) rfl ⟨rfl, _, rfl⟩

theorem isZero18 (c e : Int) (neg : Bool) (w : World) : Calls Try.prog 27 #[.agg #[.int .u64 c, .int .i32 e, .bool neg]] w fun en w' =>
    en = .returned (.bool (c == 0)) ∧ ∃ d, w' = w.alloc (.cells d 25) := by
  go_enter Try.func27, Try.ntmps27
  go_wp2
  go_ret
  exact ⟨rfl, _, rfl⟩

def cmpB (g l : Bool) : Int := if g then 1 else if l then -1 else 0

theorem cmpBool (g l : Bool) (w : World) : Calls Try.prog 28 #[.bool g, .bool l] w fun en w' => en = .returned (.int .i64 (cmpB g l)) ∧ w = w' := by
  cases g <;> cases l
  all_goals
    go_enter Try.func28, Try.ntmps28
    go_wp2
    go_ret
    exact ⟨rfl, rfl⟩

/-- How two numbers that are not zero compare in size. -/
def magE (xc xe yc ye : Int) : Int := if xe == ye then cmpB (decide (yc < xc)) (decide (xc < yc)) else cmpB (decide (ye < xe)) (decide (xe < ye))

set_option maxHeartbeats 1000000 in
theorem cmpAbs_nz (xc xe : Int) (xn : Bool) (yc ye : Int) (yn : Bool) (w : World) (hx : (xc == 0) = false) (hy : (yc == 0) = false) :
    Calls Try.prog 22 #[.agg #[.int .u64 xc, .int .i32 xe, .bool xn], .agg #[.int .u64 yc, .int .i32 ye, .bool yn]] w fun en w' => en = .returned (.int .i64 (magE xc xe yc ye)) ∧ Q w w' := by
  by_cases he : xe = ye
  · subst he
    have hm : magE xc xe yc xe = cmpB (decide (yc < xc)) (decide (xc < yc)) := by simp [magE]
    rw [hm]; clear hm
    go_enter Try.func22, Try.ntmps22
    go_wp2_with (first | (go_at_call 27; refine (isZero18 _ _ _ _).mono ?_; rintro en w' ⟨rfl, d, rfl⟩) | (go_at_call 28; refine (cmpBool _ _ _).mono ?_; rintro en w' ⟨rfl, rfl⟩))
    go_ret
    exact ⟨rfl, by repeat (first | exact Q.refl _ | apply Q.alloc)⟩
  · have he' : (xe != ye) = true := by simp [he]
    have hm : magE xc xe yc ye = cmpB (decide (ye < xe)) (decide (xe < ye)) := by simp [magE, he]
    rw [hm]; clear hm he
    go_enter Try.func22, Try.ntmps22
    go_wp2_with (first | (go_at_call 27; refine (isZero18 _ _ _ _).mono ?_; rintro en w' ⟨rfl, d, rfl⟩) | (go_at_call 28; refine (cmpBool _ _ _).mono ?_; rintro en w' ⟨rfl, rfl⟩))
    go_ret
    exact ⟨rfl, by repeat (first | exact Q.refl _ | apply Q.alloc)⟩

set_option maxHeartbeats 1000000 in
theorem cmpAbs_z (xc xe : Int) (xn : Bool) (yc ye : Int) (yn : Bool) (w : World) (hz : (xc == 0) = true ∨ ((xc == 0) = false ∧ (yc == 0) = true)) :
    Calls Try.prog 22 #[.agg #[.int .u64 xc, .int .i32 xe, .bool xn], .agg #[.int .u64 yc, .int .i32 ye, .bool yn]] w fun en w' => en = .returned (.int .i64 (cmpB (!(xc == 0)) (!(yc == 0)))) ∧ Q w w' := by
  rcases hz with hx | ⟨hx, hy⟩
  all_goals
    first | rw [hx, hy] | rw [hx]
    go_enter Try.func22, Try.ntmps22
    go_wp2_with (go_at_call 27; refine (isZero18 _ _ _ _).mono ?_; rintro en w' ⟨rfl, d, rfl⟩)
    go_region_with (first | (go_at_call 27; refine (isZero18 _ _ _ _).mono ?_; rintro en w' ⟨rfl, d, rfl⟩) | (go_at_call 28; refine (cmpBool _ _ _).mono ?_; rintro en w' ⟨rfl, rfl⟩))
    all_goals
      go_wp2
      go_ret
      exact ⟨rfl, by repeat (first | exact Q.refl _ | apply Q.drew | apply Q.alloc)⟩

theorem cmpB_bd (g l : Bool) : -1 ≤ cmpB g l ∧ cmpB g l ≤ 1 := by cases g <;> cases l <;> decide
theorem magE_bd (a b c d : Int) : -1 ≤ magE a b c d ∧ magE a b c d ≤ 1 := by unfold magE; split <;> exact cmpB_bd _ _
theorem magE_flip (a b c d : Int) : magE c d a b = - magE a b c d := by
  unfold magE
  by_cases h : b = d
  · subst h
    simp only [beq_self_eq_true, if_true]
    rcases Int.lt_trichotomy a c with k | k | k
    · rw [decide_eq_true k, decide_eq_false (show ¬ c < a by omega)]; rfl
    · subst k; simp [cmpB]
    · rw [decide_eq_true k, decide_eq_false (show ¬ a < c by omega)]; rfl
  · have h1 : (b == d) = false := by simp [h]
    have h2 : (d == b) = false := by simp [Ne.symm h]
    rw [h1, h2]
    simp only [Bool.false_eq_true, if_false]
    rcases Int.lt_or_gt_of_ne h with k | k
    · rw [decide_eq_true k, decide_eq_false (show ¬ d < b by omega)]; rfl
    · rw [decide_eq_true k, decide_eq_false (show ¬ b < d by omega)]; rfl

/-- How the two numbers compare. -/
def ord (xc xe : Int) (xn : Bool) (yc ye : Int) (yn : Bool) : Int :=
  if xn != yn then (if xn then -1 else 1) else
  if xn then magE yc ye xc xe else
  if (xc == 0) || (yc == 0) then cmpB (!(xc == 0)) (!(yc == 0)) else magE xc xe yc ye

set_option maxHeartbeats 1000000 in
theorem cmp_any (xc xe : Int) (xn : Bool) (yc ye : Int) (yn : Bool) (w : World) (hx : in18B xc xn = true) (hy : in18B yc yn = true) :
    Calls Try.prog 10 #[.agg #[.int .u64 xc, .int .i32 xe, .bool xn], .agg #[.int .u64 yc, .int .i32 ye, .bool yn]] w fun en w' => en = .returned (.int .i64 (ord xc xe xn yc ye yn)) ∧ Q w w' := by
  cases xn <;> cases yn
  · by_cases hz : (xc == 0) = true ∨ ((xc == 0) = false ∧ (yc == 0) = true)
    · have ho : ord xc xe false yc ye false = cmpB (!(xc == 0)) (!(yc == 0)) := by
        rcases hz with h | ⟨h, k⟩
        · simp [ord, h]
        · simp [ord, h, k]
      rw [ho]; clear ho hx hy
      have H := hide hz; clear hz
      go_enter Try.func10, Try.ntmps10
      go_wp2_with (go_at_call 22; refine (cmpAbs_z _ _ _ _ _ _ _ (unhide H)).mono ?_; rintro en w' ⟨rfl, q⟩)
      go_ret
      exact ⟨rfl, (((Q.refl _).alloc _ _).alloc _ _).trans q⟩
    · have h1 : (xc == 0) = false := by revert hz; cases (xc == 0) <;> simp
      have h2 : (yc == 0) = false := by revert hz; rw [h1]; cases (yc == 0) <;> simp
      have ho : ord xc xe false yc ye false = magE xc xe yc ye := by simp [ord, h1, h2]
      rw [ho]; clear ho hx hy hz
      go_enter Try.func10, Try.ntmps10
      go_wp2_with (go_at_call 22; refine (cmpAbs_nz _ _ _ _ _ _ _ h1 h2).mono ?_; rintro en w' ⟨rfl, q⟩)
      go_ret
      exact ⟨rfl, (((Q.refl _).alloc _ _).alloc _ _).trans q⟩
  · have ho : ord xc xe false yc ye true = 1 := by simp [ord]
    rw [ho]; clear ho hx hy
    go_enter Try.func10, Try.ntmps10
    go_wp2
    go_ret
    exact ⟨rfl, (((Q.refl _).alloc _ _).alloc _ _)⟩
  · have ho : ord xc xe true yc ye false = -1 := by simp [ord]
    rw [ho]; clear ho hx hy
    go_enter Try.func10, Try.ntmps10
    go_wp2
    go_ret
    exact ⟨rfl, (((Q.refl _).alloc _ _).alloc _ _)⟩
  · have h1 : (xc == 0) = false := by revert hx; unfold in18B; cases (xc == 0) <;> simp
    have h2 : (yc == 0) = false := by revert hy; unfold in18B; cases (yc == 0) <;> simp
    have ho : ord xc xe true yc ye true = magE yc ye xc xe := by simp [ord]
    rw [ho]; clear ho hx hy
    go_enter Try.func10, Try.ntmps10
    go_wp2_with (go_at_call 22; refine (cmpAbs_nz _ _ _ _ _ _ _ h2 h1).mono ?_; rintro en w' ⟨rfl, q⟩)
    go_ret
    exact ⟨rfl, (((Q.refl _).alloc _ _).alloc _ _).trans q⟩

end Go.Proofs.Qxb6603993a
