import Derived.Test.Qxb6604056aGsWalks
import Derived.Test.Qxb6604056aNlPlain
import Derived.Deep.DeepCutAuto
import Derived.Deep.Light
namespace Go.Proofs.Qxb6604056a
open Go.RowKit
set_option linter.unusedVariables false

theorem ret_int {k : IntKind} {a b : Int} (h : a = b) : Ending.returned (.int k a) = .returned (.int k b) := by rw [h]

/-! ### digitsLength -/
theorem dl_more {s : ByteArray} {k : Nat} (h : k < s.size) (h1 : 48 ≤ (s[k].toNat : Int)) (h2 : (s[k].toNat : Int) ≤ 57) {R : Nat} (H : k + Nl.dl (bv s) (s.size - k) k = R) : k + 1 + Nl.dl (bv s) (s.size - (k + 1)) (k + 1) = R := by
  rw [show s.size - k = (s.size - (k + 1)) + 1 by omega] at H
  unfold Nl.dl at H
  rw [← bv_at h, if_pos ⟨h1, h2⟩] at H
  omega
theorem dl_stop {s : ByteArray} {k : Nat} (h : k < s.size) (h1 : ¬ (48 ≤ (s[k].toNat : Int) ∧ (s[k].toNat : Int) ≤ 57)) {R : Nat} (H : k + Nl.dl (bv s) (s.size - k) k = R) : (k : Int) = R := by
  rw [show s.size - k = (s.size - (k + 1)) + 1 by omega] at H
  unfold Nl.dl at H
  rw [← bv_at h, if_neg h1] at H
  omega
theorem dl_done {s : ByteArray} {k : Nat} (h : ¬ k < s.size) {R : Nat} (H : k + Nl.dl (bv s) (s.size - k) k = R) : (k : Int) = R := by
  rw [show s.size - k = 0 by omega] at H
  unfold Nl.dl at H
  omega

set_option maxRecDepth 100000 in
set_option maxHeartbeats 1000000 in
theorem dig21 (s : ByteArray) (w : World) (h1 : s.size ≤ 1048576) :
    Calls Try.prog 21 #[.string s] w fun en w' => en = .returned (.int .i64 (Nl.dfr (bv s) s.size 0)) ∧ w = w' := by
  go_enter Try.func21, Try.ntmps21
  go_wp2
  go_loop [3] (fun kv => ∃ k : Nat, k ≤ s.size ∧ kv = .int .i64 k ∧ Hid (k + Nl.dl (bv s) (s.size - k) k = Nl.dfr (bv s) s.size 0)) (fun kv => s.size - (intOf kv).toNat)
  case atStart => exact ⟨0, by omega, rfl, by show _ = _; simp [Nl.dfr]⟩
  case round =>
    obtain ⟨k, hk, rfl, HD⟩ := hrel
    by_cases hlt : k < s.size
    · go_wp2
      · go_round
        case rel => exact ⟨k + 1, by omega, by go_num, dl_more hlt (by omega) (by omega) HD.out⟩
        case measure => simp [intOf]; omega
      all_goals
        go_ret
        exact ⟨ret_int (dl_stop hlt (by omega) HD.out), rfl⟩
    · go_wp2
      go_ret
      exact ⟨ret_int (dl_done hlt HD.out), rfl⟩

/-! ### nlAutomaton -/
section
variable {s : ByteArray} {str : Bool} {i : Nat} {st st' last R : Int}
theorem au_go (h : i < s.size) (hs : Nl.step str st (s[i].toNat : Int) = some st') (H : Nl.auto (bv s) str (s.size - i) st i last = R) :
    Nl.auto (bv s) str (s.size - (i + 1)) st' (i + 1) (if Nl.acc str st' then (i : Int) + 1 else last) = R := by
  rw [show s.size - i = (s.size - (i + 1)) + 1 by omega, Nl.auto_some (st' := st') (by rw [← bv_at h]; exact hs)] at H
  exact H
theorem au_yes (h : i < s.size) (hs : Nl.step str st (s[i].toNat : Int) = some st') (ha : Nl.acc str st' = true) (H : Nl.auto (bv s) str (s.size - i) st i last = R) :
    Nl.auto (bv s) str (s.size - (i + 1)) st' (i + 1) ((i : Int) + 1) = R := by
  have := au_go h hs H
  rw [ha] at this
  simpa using this
theorem au_no (h : i < s.size) (hs : Nl.step str st (s[i].toNat : Int) = some st') (ha : Nl.acc str st' = false) (H : Nl.auto (bv s) str (s.size - i) st i last = R) :
    Nl.auto (bv s) str (s.size - (i + 1)) st' (i + 1) last = R := by
  have := au_go h hs H
  rw [ha] at this
  simpa using this
theorem au_stop (h : i < s.size) (hs : Nl.step str st (s[i].toNat : Int) = none) (H : Nl.auto (bv s) str (s.size - i) st i last = R) : last = R := by
  rw [show s.size - i = (s.size - (i + 1)) + 1 by omega, Nl.auto_none (by rw [← bv_at h]; exact hs)] at H
  exact H
theorem au_end (h : ¬ i < s.size) (H : Nl.auto (bv s) str (s.size - i) st i last = R) : last = R := by
  rw [show s.size - i = 0 by omega] at H
  exact H
end

set_option maxRecDepth 100000 in
set_option maxHeartbeats 4000000 in
theorem au_true (s : ByteArray) (w : World) (h1 : s.size ≤ 1048576) :
    Calls Try.prog 13 #[.string s, .bool true] w fun en w' => en = .returned (.int .i64 (Nl.auto (bv s) true s.size 0 0 0)) ∧ w = w' := by
  obtain ⟨R, hR⟩ : ∃ R, Nl.auto (bv s) true s.size 0 0 0 = R := ⟨_, rfl⟩
  rw [hR]
  have HR := hide hR; clear hR
  go_enter Try.func13, Try.ntmps13
  go_wp2
  go_loop [5, 6, 7] (fun sv lv iv => ∃ (i : Nat) (st last : Int), i ≤ s.size ∧ 0 ≤ st ∧ st ≤ 7 ∧ sv = .int .i64 st ∧ lv = .int .i64 last ∧ iv = .int .i64 i ∧ Hid (Nl.auto (bv s) true (s.size - i) st i last = R)) (fun _ _ iv => s.size - (intOf iv).toNat)
  case atStart => exact ⟨0, 0, 0, by omega, by omega, by omega, rfl, rfl, rfl, HR⟩
  case round =>
    obtain ⟨i, st, last, hi, st0, st7, rfl, rfl, rfl, HA⟩ := hrel
    by_cases hlt : i < s.size
    · have hc : st = 0 ∨ st = 1 ∨ st = 2 ∨ st = 3 ∨ st = 4 ∨ st = 5 ∨ st = 6 ∨ st = 7 := by omega
      clear st0 st7
      rcases hc with rfl | rfl | rfl | rfl | rfl | rfl | rfl | rfl
      all_goals
        go_wp2
        all_goals first
          | (go_ret; exact ⟨ret_int (au_stop hlt (by go_light; (try simp only [beq_eq_false_iff_ne, ne_eq] at *); first | (exfalso; omega) | (unfold Nl.step; repeat (first | rw [if_pos (by omega)] | rw [if_neg (by omega)] | rw [if_pos rfl] | rw [if_neg (by decide)]))) HA.out), rfl⟩)
          | (go_round
             case rel => exact ⟨i + 1, _, _, by omega, by decide, by decide, rfl, rfl, by go_num, by first | exact au_yes hlt (by go_light; (try simp only [beq_iff_eq, beq_eq_false_iff_ne, ne_eq] at *); first | (exfalso; omega) | (unfold Nl.step; repeat (first | rw [if_pos (by omega)] | rw [if_neg (by omega)] | rw [if_pos rfl] | rw [if_neg (by decide)]))) (by decide) HA.out | exact au_no hlt (by go_light; (try simp only [beq_iff_eq, beq_eq_false_iff_ne, ne_eq] at *); first | (exfalso; omega) | (unfold Nl.step; repeat (first | rw [if_pos (by omega)] | rw [if_neg (by omega)] | rw [if_pos rfl] | rw [if_neg (by decide)]))) (by decide) HA.out⟩
             case measure => simp [intOf]; omega)
    · go_wp2
      go_ret
      exact ⟨ret_int (au_end hlt HA.out), rfl⟩

set_option maxRecDepth 100000 in
set_option maxHeartbeats 4000000 in
theorem au_false (s : ByteArray) (w : World) (h1 : s.size ≤ 1048576) :
    Calls Try.prog 13 #[.string s, .bool false] w fun en w' => en = .returned (.int .i64 (Nl.auto (bv s) false s.size 0 0 0)) ∧ w = w' := by
  obtain ⟨R, hR⟩ : ∃ R, Nl.auto (bv s) false s.size 0 0 0 = R := ⟨_, rfl⟩
  rw [hR]
  have HR := hide hR; clear hR
  go_enter Try.func13, Try.ntmps13
  go_wp2
  go_loop [5, 6, 7] (fun sv lv iv => ∃ (i : Nat) (st last : Int), i ≤ s.size ∧ 0 ≤ st ∧ st ≤ 7 ∧ sv = .int .i64 st ∧ lv = .int .i64 last ∧ iv = .int .i64 i ∧ Hid (Nl.auto (bv s) false (s.size - i) st i last = R)) (fun _ _ iv => s.size - (intOf iv).toNat)
  case atStart => exact ⟨0, 0, 0, by omega, by omega, by omega, rfl, rfl, rfl, HR⟩
  case round =>
    obtain ⟨i, st, last, hi, st0, st7, rfl, rfl, rfl, HA⟩ := hrel
    by_cases hlt : i < s.size
    · have hc : st = 0 ∨ st = 1 ∨ st = 2 ∨ st = 3 ∨ st = 4 ∨ st = 5 ∨ st = 6 ∨ st = 7 := by omega
      clear st0 st7
      rcases hc with rfl | rfl | rfl | rfl | rfl | rfl | rfl | rfl
      all_goals
        go_wp2
        all_goals first
          | (go_ret; exact ⟨ret_int (au_stop hlt (by go_light; (try simp only [beq_eq_false_iff_ne, ne_eq] at *); first | (exfalso; omega) | (unfold Nl.step; repeat (first | rw [if_pos (by omega)] | rw [if_neg (by omega)] | rw [if_pos rfl] | rw [if_neg (by decide)]))) HA.out), rfl⟩)
          | (go_round
             case rel => exact ⟨i + 1, _, _, by omega, by decide, by decide, rfl, rfl, by go_num, by first | exact au_yes hlt (by go_light; (try simp only [beq_iff_eq, beq_eq_false_iff_ne, ne_eq] at *); first | (exfalso; omega) | (unfold Nl.step; repeat (first | rw [if_pos (by omega)] | rw [if_neg (by omega)] | rw [if_pos rfl] | rw [if_neg (by decide)]))) (by decide) HA.out | exact au_no hlt (by go_light; (try simp only [beq_iff_eq, beq_eq_false_iff_ne, ne_eq] at *); first | (exfalso; omega) | (unfold Nl.step; repeat (first | rw [if_pos (by omega)] | rw [if_neg (by omega)] | rw [if_pos rfl] | rw [if_neg (by decide)]))) (by decide) HA.out⟩
             case measure => simp [intOf]; omega)
    · go_wp2
      go_ret
      exact ⟨ret_int (au_end hlt HA.out), rfl⟩
end Go.Proofs.Qxb6604056a
