import Derived.Test.Qxb6603993aWalks
namespace Go.Proofs.Qxb6603993a
open Go.RowKit
set_option linter.unusedVariables false

set_option maxRecDepth 100000 in
set_option maxHeartbeats 1000000 in
theorem mul_zero_l (l e : Int) (neg : Bool) (h' l' e' : Int) (neg' : Bool) (w : World) :
    Calls Try.prog 14 #[.agg #[.int .u64 0, .int .u64 l, .int .i32 e, .bool neg], .agg #[.int .u64 h', .int .u64 l', .int .i32 e', .bool neg']] w fun en w' =>
      en = .returned (.agg #[.int .u64 0, .int .u64 0, .int .i32 0, .bool false]) ∧ Q w w' := by
  go_enter Try.func14, Try.ntmps14
  go_wp2_with (go_at_call 25; refine (isZero36 _ _ _ _ _).mono ?_; rintro en w' ⟨rfl, c, rfl⟩)
  refine bodyPost_ret (v := .agg #[.int .u64 0, .int .u64 0, .int .i32 0, .bool false]) (by simp [results, Try.results14, go_sem]) rfl ⟨rfl, ?_⟩
  repeat (first | exact Q.refl _ | apply Q.alloc | apply Q.drew)

set_option maxRecDepth 100000 in
set_option maxHeartbeats 1000000 in
theorem mul_zero_r (h l e : Int) (neg : Bool) (l' e' : Int) (neg' : Bool) (w : World) (hz : (h == 0) = false) :
    Calls Try.prog 14 #[.agg #[.int .u64 h, .int .u64 l, .int .i32 e, .bool neg], .agg #[.int .u64 0, .int .u64 l', .int .i32 e', .bool neg']] w fun en w' =>
      en = .returned (.agg #[.int .u64 0, .int .u64 0, .int .i32 0, .bool false]) ∧ Q w w' := by
  go_enter Try.func14, Try.ntmps14
  go_wp2_with (go_at_call 25; refine (isZero36 _ _ _ _ _).mono ?_; rintro en w' ⟨rfl, c, rfl⟩)
  refine bodyPost_ret (v := .agg #[.int .u64 0, .int .u64 0, .int .i32 0, .bool false]) (by simp [results, Try.results14, go_sem]) rfl ⟨rfl, ?_⟩
  repeat (first | exact Q.refl _ | apply Q.alloc | apply Q.drew)

theorem one_e (e : Int) (h1 : -2147483648 ≤ e) (h2 : e ≤ 2147483647) : wrap32 (wrap32 (wrap32 (e + -35) + 36) - 1) = e := by
  unfold wrap32; omega
theorem one_e' (e : Int) (h1 : -2147483648 ≤ e) (h2 : e ≤ 2147483647) : wrap32 (wrap32 (wrap32 (-35 + e) + 36) - 1) = e := by
  unfold wrap32; omega
theorem one_h (h a0 a1 a2 a3 : Int) (e0 : h / 1000000000 = a0) (e1 : h % 1000000000 = a1) (b2 : 0 ≤ a2) (b2' : a2 < 1000000000) (b3 : 0 ≤ a3) (b3' : a3 < 1000000000) :
    (a0 * 100000000 + (a1 * 100000000 + (a2 * 100000000 + a3 * 100000000 / 1000000000) / 1000000000) / 1000000000) * 10 +
      (a1 * 100000000 + (a2 * 100000000 + a3 * 100000000 / 1000000000) / 1000000000) % 1000000000 / 100000000 = h := by
  omega
theorem one_l (l a2 a3 : Int) (e2 : l / 1000000000 = a2) (e3 : l % 1000000000 = a3) (b2 : 0 ≤ a2) (b2' : a2 < 1000000000) :
    ((a2 * 100000000 + a3 * 100000000 / 1000000000) / 1000000000 % 100000000 * 1000000000 + (a2 * 100000000 + a3 * 100000000 / 1000000000) % 1000000000) * 10 +
      a3 * 100000000 % 1000000000 / 100000000 = l := by
  omega

set_option maxRecDepth 100000 in
set_option maxHeartbeats 1000000 in
theorem mul_one_r (h l e a0 a1 a2 a3 : Int) (neg neg' : Bool) (w : World) (hz : (h == 0) = false) (hl : 0 ≤ l) (hh : 0 ≤ h)
    (e0 : h / 1000000000 = a0) (e1 : h % 1000000000 = a1) (e2 : l / 1000000000 = a2) (e3 : l % 1000000000 = a3)
    (b0 : 0 ≤ a0) (b0' : a0 < 1000000000) (b1 : 0 ≤ a1) (b1' : a1 < 1000000000) (b2 : 0 ≤ a2) (b2' : a2 < 1000000000) (b3 : 0 ≤ a3) (b3' : a3 < 1000000000)
    (he1 : -2147483648 ≤ e) (he2 : e ≤ 2147483647) :
    Calls Try.prog 14 #[.agg #[.int .u64 h, .int .u64 l, .int .i32 e, .bool neg], .agg #[.int .u64 100000000000000000, .int .u64 0, .int .i32 (-35), .bool neg']] w fun en w' =>
      en = .returned (.agg #[.int .u64 h, .int .u64 l, .int .i32 e, .bool (!(neg == neg'))]) ∧ Q w w' := by
  have E1 := one_h h a0 a1 a2 a3 e0 e1 b2 b2' b3 b3'
  have E2 := one_l l a2 a3 e2 e3 b2 b2'
  have E3 := one_e e he1 he2
  have H1 := hide E1; have H2 := hide E2; have H3 := hide E3
  clear E1 E2 E3 he1 he2
  go_enter Try.func14, Try.ntmps14
  go_wp2_with (go_at_call 25; refine (isZero36 _ _ _ _ _).mono ?_; rintro en w' ⟨rfl, c, rfl⟩)
  go_quiet (fail)
  go_wp2
  go_quiet (fail)
  go_wp2_with fail
  rw [unhide H1, unhide H2, unhide H3]
  refine (ru_false _ _ _ _ _).mono ?_
  rintro en w' ⟨rfl, c1, d1, rfl⟩
  go_wp2
  refine bodyPost_ret (v := .agg #[.int .u64 h, .int .u64 l, .int .i32 e, .bool (!(neg == neg'))]) (by simp [results, Try.results14, go_sem]) rfl ⟨rfl, ?_⟩
  have hs : w.heap.size ≤ w.heap.size + 1 + 1 := by omega
  exact ((((((((((((((Q.refl w).alloc _ _).alloc _ _).alloc _ _).alloc _ _).alloc _ _).drewN _).setCell hs _).setCell hs _).setCell hs _).setCell hs _).alloc _ _).alloc _ _).alloc _ _)

theorem one_h' (h a0 a1 a2 a3 : Int) (e0 : h / 1000000000 = a0) (e1 : h % 1000000000 = a1) (b2 : 0 ≤ a2) (b2' : a2 < 1000000000) (b3 : 0 ≤ a3) (b3' : a3 < 1000000000) :
    (100000000 * a0 + (100000000 * a1 + (100000000 * a2 + 100000000 * a3 / 1000000000) / 1000000000) / 1000000000) * 10 +
      (100000000 * a1 + (100000000 * a2 + 100000000 * a3 / 1000000000) / 1000000000) % 1000000000 / 100000000 = h := by
  omega
theorem one_l' (l a2 a3 : Int) (e2 : l / 1000000000 = a2) (e3 : l % 1000000000 = a3) (b2 : 0 ≤ a2) (b2' : a2 < 1000000000) :
    ((100000000 * a2 + 100000000 * a3 / 1000000000) / 1000000000 % 100000000 * 1000000000 + (100000000 * a2 + 100000000 * a3 / 1000000000) % 1000000000) * 10 +
      100000000 * a3 % 1000000000 / 100000000 = l := by
  omega

set_option maxRecDepth 100000 in
set_option maxHeartbeats 1000000 in
theorem mul_one_l (h l e a0 a1 a2 a3 : Int) (neg neg' : Bool) (w : World) (hz : (h == 0) = false) (hl : 0 ≤ l) (hh : 0 ≤ h)
    (e0 : h / 1000000000 = a0) (e1 : h % 1000000000 = a1) (e2 : l / 1000000000 = a2) (e3 : l % 1000000000 = a3)
    (b0 : 0 ≤ a0) (b0' : a0 < 1000000000) (b1 : 0 ≤ a1) (b1' : a1 < 1000000000) (b2 : 0 ≤ a2) (b2' : a2 < 1000000000) (b3 : 0 ≤ a3) (b3' : a3 < 1000000000)
    (he1 : -2147483648 ≤ e) (he2 : e ≤ 2147483647) :
    Calls Try.prog 14 #[.agg #[.int .u64 100000000000000000, .int .u64 0, .int .i32 (-35), .bool neg'], .agg #[.int .u64 h, .int .u64 l, .int .i32 e, .bool neg]] w fun en w' =>
      en = .returned (.agg #[.int .u64 h, .int .u64 l, .int .i32 e, .bool (!(neg' == neg))]) ∧ Q w w' := by
  have E1 := one_h' h a0 a1 a2 a3 e0 e1 b2 b2' b3 b3'
  have E2 := one_l' l a2 a3 e2 e3 b2 b2'
  have E3 := one_e' e he1 he2
  have H1 := hide E1; have H2 := hide E2; have H3 := hide E3
  clear E1 E2 E3 he1 he2
  go_enter Try.func14, Try.ntmps14
  go_wp2_with (go_at_call 25; refine (isZero36 _ _ _ _ _).mono ?_; rintro en w' ⟨rfl, c, rfl⟩)
  go_quiet (fail)
  go_wp2
  go_quiet (fail)
  go_wp2_with fail
  rw [unhide H1, unhide H2, unhide H3]
  refine (ru_false _ _ _ _ _).mono ?_
  rintro en w' ⟨rfl, c1, d1, rfl⟩
  go_wp2
  refine bodyPost_ret (v := .agg #[.int .u64 h, .int .u64 l, .int .i32 e, .bool (!(neg' == neg))]) (by simp [results, Try.results14, go_sem]) rfl ⟨rfl, ?_⟩
  have hs : w.heap.size ≤ w.heap.size + 1 + 1 := by omega
  exact ((((((((((((((Q.refl w).alloc _ _).alloc _ _).alloc _ _).alloc _ _).alloc _ _).drewN _).setCell hs _).setCell hs _).setCell hs _).setCell hs _).alloc _ _).alloc _ _).alloc _ _)
end Go.Proofs.Qxb6603993a
