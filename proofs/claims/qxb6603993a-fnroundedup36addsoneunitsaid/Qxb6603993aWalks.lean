import Derived.Test.Qxb6603993aRows
import Derived.WalkKit
import Derived.WalkSpells
import Derived.WalkLawsBesides
import Derived.Deep.QuietTactic
import Derived.BigQuiet
import Derived.RowKit3
namespace Go.Proofs.Qxb6603993a
open Go.RowKit

theorem hide {p : Prop} (h : p) : Hid p := h
theorem unhide {p : Prop} (h : Hid p) : p := h

/-- New blocks alone. -/
def Q (w w' : World) : Prop := Below w.heap.size w w' ∧ Grown w w'
theorem Q.refl (w : World) : Q w w := ⟨Below.refl _ _, Grown.refl _⟩
theorem Q.trans {a b c : World} (h : Q a b) (k : Q b c) : Q a c :=
  ⟨h.1.trans (k.1.mono h.1.size), World.keptBut_trans h.2.1 k.2.1, fun x => (k.2.2.1 x).trans (h.2.2.1 x), Nat.le_trans h.2.2.2 k.2.2.2⟩
theorem Q.alloc {a w : World} (h : Q a w) (c : Array Value) (t : TypeId) : Q a (w.alloc (.cells c t)) :=
  ⟨h.1.alloc h.1.size _, h.2.alloc c t⟩
theorem Q.drew {a w : World} (h : Q a w) : Q a w.drew := ⟨h.1.drew, h.2.drew⟩
theorem Q.drewN {a w : World} (h : Q a w) (n : Nat) : Q a (w.drewN n) := ⟨h.1.trans ⟨rfl, rfl, rfl, Nat.le_refl _, fun _ _ => rfl⟩, h.2⟩
theorem Q.setCell {a w : World} (h : Q a w) {p : Addr} (hp : a.heap.size ≤ p.block) (v : Value) : Q a (w.setCell p v) := ⟨h.1.setCell hp v, h.2.setCell hp v⟩

set_option maxHeartbeats 400000 in
theorem make36 (h l e : Int) (neg : Bool) (w : World) : Calls Try.prog 13 #[.int .u64 h, .int .u64 l, .int .i32 e, .bool neg] w fun en w' =>
    en = .returned (.agg #[.int .u64 h, .int .u64 l, .int .i32 e, .bool neg]) ∧ ∃ c, w' = w.alloc (.cells c 32) := by
  go_enter Try.func13, Try.ntmps13
  go_wp2
  exact bodyPost_ret (v := .agg #[.int .u64 h, .int .u64 l, .int .i32 e, .bool neg]) (by simp [results, Try.results13, go_sem]) rfl ⟨rfl, _, rfl⟩

set_option maxHeartbeats 400000 in
theorem parts36 (h l e : Int) (neg : Bool) (w : World) : Calls Try.prog 21 #[.agg #[.int .u64 h, .int .u64 l, .int .i32 e, .bool neg]] w fun en w' =>
    en = .returned (.tuple #[.int .u64 h, .int .u64 l, .int .i32 e, .bool neg]) ∧ ∃ c n, w' = (w.alloc (.cells c 32)).drewN n := by
  go_enter Try.func21, Try.ntmps21
  go_wp2
  go_quiet (fail)
  go_wp2
  exact bodyPost_ret (v := .tuple #[.int .u64 h, .int .u64 l, .int .i32 e, .bool neg]) (by simp [results, Try.results21, go_sem]) rfl ⟨rfl, _, _, rfl⟩

theorem isZero36 (h l e : Int) (neg : Bool) (w : World) : Calls Try.prog 25 #[.agg #[.int .u64 h, .int .u64 l, .int .i32 e, .bool neg]] w fun en w' =>
    en = .returned (.bool (h == 0)) ∧ ∃ c, w' = w.alloc (.cells c 32) := by
  go_enter Try.func25, Try.ntmps25
  go_wp2
  go_ret
  exact ⟨rfl, _, rfl⟩

set_option maxHeartbeats 400000 in
theorem ru_false (h l e : Int) (neg : Bool) (w : World) : Calls Try.prog 26 #[.agg #[.int .u64 h, .int .u64 l, .int .i32 e, .bool neg], .bool false] w fun en w' =>
    en = .returned (.agg #[.int .u64 h, .int .u64 l, .int .i32 e, .bool neg]) ∧ ∃ c d, w' = (w.alloc (.cells c 32)).alloc (.cells d 32) := by
  go_enter Try.func26, Try.ntmps26
  go_wp2
  exact bodyPost_ret (v := .agg #[.int .u64 h, .int .u64 l, .int .i32 e, .bool neg]) (by simp [results, Try.results26, go_sem]) rfl ⟨rfl, _, _, rfl⟩

set_option maxHeartbeats 400000 in
theorem ru_low (h l e : Int) (neg : Bool) (w : World) (h0 : 0 ≤ l) (h1 : l < 999999999999999999) : Calls Try.prog 26 #[.agg #[.int .u64 h, .int .u64 l, .int .i32 e, .bool neg], .bool true] w fun en w' =>
    en = .returned (.agg #[.int .u64 h, .int .u64 (l + 1), .int .i32 e, .bool neg]) ∧ ∃ c d, w' = (w.alloc (.cells c 32)).alloc (.cells d 32) := by
  have h2 : l + 1 < 1000000000000000000 := by omega
  go_enter Try.func26, Try.ntmps26
  go_wp2
  exact bodyPost_ret (v := .agg #[.int .u64 h, .int .u64 (l + 1), .int .i32 e, .bool neg]) (by simp [results, Try.results26, go_sem]) rfl ⟨rfl, _, _, rfl⟩

set_option maxHeartbeats 400000 in
theorem ru_mid (h e : Int) (neg : Bool) (w : World) (h0 : 0 ≤ h) (h1 : h < 999999999999999999) : Calls Try.prog 26 #[.agg #[.int .u64 h, .int .u64 999999999999999999, .int .i32 e, .bool neg], .bool true] w fun en w' =>
    en = .returned (.agg #[.int .u64 (h + 1), .int .u64 0, .int .i32 e, .bool neg]) ∧ ∃ c d, w' = (w.alloc (.cells c 32)).alloc (.cells d 32) := by
  have h2 : (h + 1 == 1000000000000000000) = false := beq_eq_false_iff_ne.2 (by omega)
  go_enter Try.func26, Try.ntmps26
  go_wp2
  exact bodyPost_ret (v := .agg #[.int .u64 (h + 1), .int .u64 0, .int .i32 e, .bool neg]) (by simp [results, Try.results26, go_sem]) rfl ⟨rfl, _, _, rfl⟩

set_option maxHeartbeats 400000 in
theorem ru_top (e : Int) (neg : Bool) (w : World) : Calls Try.prog 26 #[.agg #[.int .u64 999999999999999999, .int .u64 999999999999999999, .int .i32 e, .bool neg], .bool true] w fun en w' =>
    en = .returned (.agg #[.int .u64 100000000000000000, .int .u64 0, .int .i32 (wrap32 (e + 1)), .bool neg]) ∧ ∃ c d, w' = (w.alloc (.cells c 32)).alloc (.cells d 32) := by
  go_enter Try.func26, Try.ntmps26
  go_wp2
  exact bodyPost_ret (v := .agg #[.int .u64 100000000000000000, .int .u64 0, .int .i32 (wrap32 (e + 1)), .bool neg]) (by simp [results, Try.results26, go_sem]) rfl ⟨rfl, _, _, rfl⟩

/-- ZZRoundedUp36 out of roundedUp. -/
theorem zru {h l e : Int} {neg up : Bool} {h' l' e' : Int} {neg' : Bool}
    (hc : ∀ w, Calls Try.prog 26 #[.agg #[.int .u64 h, .int .u64 l, .int .i32 e, .bool neg], .bool up] w fun en w' => en = .returned (.agg #[.int .u64 h', .int .u64 l', .int .i32 e', .bool neg']) ∧ ∃ c d, w' = (w.alloc (.cells c 32)).alloc (.cells d 32)) (w : World) :
    Calls Try.prog 17 #[.agg #[.int .u64 h, .int .u64 l, .int .i32 e, .bool neg], .bool up] w fun en w' => en = .returned (.agg #[.int .u64 h', .int .u64 l', .int .i32 e', .bool neg']) ∧ Q w w' := by
  have H := hide hc; clear hc
  go_enter Try.func17, Try.ntmps17
  go_wp2_with (go_at_call 26; refine (unhide H _).mono ?_; rintro en w' ⟨rfl, c, d, rfl⟩)
  refine bodyPost_ret (v := .agg #[.int .u64 h', .int .u64 l', .int .i32 e', .bool neg']) (by simp [results, Try.results17, go_sem]) rfl ⟨rfl, ?_⟩
  repeat (first | exact Q.refl _ | apply Q.alloc | apply Q.drew)

theorem Q.grown {w w' : World} (h : Q w w') : Grown w w' := h.2

/-- zzIn36, as a Bool. -/
def in36B (h l : Int) : Bool := (h == 0) || (decide (100000000000000000 ≤ h) && decide (h < 1000000000000000000) && decide (l < 1000000000000000000))

set_option maxHeartbeats 400000 in
theorem in36_any (h l : Int) (w : World) : Calls Try.prog 12 #[.int .u64 h, .int .u64 l] w fun en w' => en = .returned (.bool (in36B h l)) ∧ w' = w := by
  unfold in36B
  go_enter Try.func12, Try.ntmps12
  go_wp2
  all_goals (go_ret; exact ⟨by first | (simp [*]; done) | (simp [*]; omega), rfl⟩)

end Go.Proofs.Qxb6603993a
