import Derived.Test.Qxb6603993aWalks
namespace Go.Proofs.Qxb6603993a
open Go.RowKit

set_option maxHeartbeats 1000000 in
theorem keeps_out (h l e : Int) (neg : Bool) (w : World) (hc : h = 0 ∨ ((h == 0) = false ∧ in36B h l = false)) :
    Calls Try.prog 7 #[.int .u64 h, .int .u64 l, .int .i32 e, .bool neg] w fun en w' => en = .returned (.bool true) ∧ Grown w w' := by
  rcases hc with rfl | ⟨hz, hc⟩
  · go_enter Try.func7, Try.ntmps7
    go_wp2
    go_ret
    exact ⟨rfl, Grown.refl _⟩
  · go_enter Try.func7, Try.ntmps7
    go_wp2_with (go_at_call 12; refine (in36_any _ _ _).mono ?_; rintro en w' ⟨rfl, rfl⟩)
    go_ret
    exact ⟨rfl, Grown.refl _⟩

set_option maxHeartbeats 1000000 in
theorem keeps_low (h l e : Int) (neg : Bool) (w : World) (h1 : 100000000000000000 ≤ h) (h2 : h < 1000000000000000000) (l1 : 0 ≤ l) (l2 : l < 999999999999999999) :
    Calls Try.prog 7 #[.int .u64 h, .int .u64 l, .int .i32 e, .bool neg] w fun en w' => en = .returned (.bool true) ∧ Grown w w' := by
  have hz' : (h == 0) = false := beq_eq_false_iff_ne.2 (by omega)
  have hl : (l == 999999999999999999) = false := beq_eq_false_iff_ne.2 (by omega)
  have hb : in36B h l = true := by simp [in36B]; omega
  have l3 : l + 1 < 1000000000000000000 := by omega
  have l4 : l < l + 1 := by omega
  go_enter Try.func7, Try.ntmps7
  go_wp2_with (first | (go_at_call 12; refine (in36_any _ _ _).mono ?_; rintro en w' ⟨rfl, rfl⟩) | (go_at_call 13; refine (make36 _ _ _ _ _).mono ?_; rintro en w' ⟨rfl, c, rfl⟩) | (go_at_call 17; refine (zru (ru_low _ _ _ _ · l1 l2) _).mono ?_; rintro en w' ⟨rfl, q⟩) | (go_at_call 21; refine (parts36 _ _ _ _ _).mono ?_; rintro en w' ⟨rfl, c, n, rfl⟩))
  all_goals (go_ret; exact ⟨by simp, ((((Q.refl _).alloc _ _).trans q).alloc _ _).drewN _ |>.grown⟩)

set_option maxHeartbeats 1000000 in
theorem keeps_mid (h e : Int) (neg : Bool) (w : World) (h1 : 100000000000000000 ≤ h) (h2 : h < 999999999999999999) :
    Calls Try.prog 7 #[.int .u64 h, .int .u64 999999999999999999, .int .i32 e, .bool neg] w fun en w' => en = .returned (.bool true) ∧ Grown w w' := by
  have hz' : (h == 0) = false := beq_eq_false_iff_ne.2 (by omega)
  have hl : (h == 999999999999999999) = false := beq_eq_false_iff_ne.2 (by omega)
  have hb : in36B h 999999999999999999 = true := by simp [in36B]; omega
  have l3 : h + 1 < 1000000000000000000 := by omega
  have l4 : h < h + 1 := by omega
  have l5 : 100000000000000000 ≤ h + 1 := by omega
  have h0 : 0 ≤ h := by omega
  go_enter Try.func7, Try.ntmps7
  go_wp2_with (first | (go_at_call 12; refine (in36_any _ _ _).mono ?_; rintro en w' ⟨rfl, rfl⟩) | (go_at_call 13; refine (make36 _ _ _ _ _).mono ?_; rintro en w' ⟨rfl, c, rfl⟩) | (go_at_call 17; refine (zru (ru_mid _ _ _ · h0 h2) _).mono ?_; rintro en w' ⟨rfl, q⟩) | (go_at_call 21; refine (parts36 _ _ _ _ _).mono ?_; rintro en w' ⟨rfl, c, n, rfl⟩))
  all_goals (go_ret; exact ⟨by simp, ((((Q.refl _).alloc _ _).trans q).alloc _ _).drewN _ |>.grown⟩)

set_option maxHeartbeats 1000000 in
theorem keeps_top (e : Int) (neg : Bool) (w : World) (e0 : -2147483648 ≤ e) (e1 : e < 2147483647) :
    Calls Try.prog 7 #[.int .u64 999999999999999999, .int .u64 999999999999999999, .int .i32 e, .bool neg] w fun en w' => en = .returned (.bool true) ∧ Grown w w' := by
  have hl : (e == 2147483647) = false := beq_eq_false_iff_ne.2 (by omega)
  have hb : in36B 999999999999999999 999999999999999999 = true := by decide
  have he : (e + 1 != e) = true := by simp; omega
  have hw : wrap32 (e + 1) = e + 1 := by unfold wrap32; omega
  have H := fun w => ru_top e neg w
  rw [hw] at H
  have H' := hide H; clear H hw
  go_enter Try.func7, Try.ntmps7
  go_wp2_with (first | (go_at_call 12; refine (in36_any _ _ _).mono ?_; rintro en w' ⟨rfl, rfl⟩) | (go_at_call 13; refine (make36 _ _ _ _ _).mono ?_; rintro en w' ⟨rfl, c, rfl⟩) | (go_at_call 17; refine (zru (unhide H' ·) _).mono ?_; rintro en w' ⟨rfl, q⟩) | (go_at_call 21; refine (parts36 _ _ _ _ _).mono ?_; rintro en w' ⟨rfl, c, n, rfl⟩))
  all_goals (go_ret; exact ⟨by simp, ((((Q.refl _).alloc _ _).trans q).alloc _ _).drewN _ |>.grown⟩)

set_option maxHeartbeats 1000000 in
theorem keeps_max (neg : Bool) (w : World) :
    Calls Try.prog 7 #[.int .u64 999999999999999999, .int .u64 999999999999999999, .int .i32 2147483647, .bool neg] w fun en w' => en = .returned (.bool true) ∧ Grown w w' := by
  have hb : in36B 999999999999999999 999999999999999999 = true := by decide
  go_enter Try.func7, Try.ntmps7
  go_wp2_with (go_at_call 12; refine (in36_any _ _ _).mono ?_; rintro en w' ⟨rfl, rfl⟩)
  go_ret
  exact ⟨rfl, Grown.refl _⟩
end Go.Proofs.Qxb6603993a
