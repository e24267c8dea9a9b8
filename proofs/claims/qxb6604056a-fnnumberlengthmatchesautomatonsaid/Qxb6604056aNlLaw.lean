import Derived.Test.Qxb6604056aNlLen
namespace Go.Proofs.Qxb6604056a
open Go.RowKit
set_option linter.unusedVariables false

theorem bytes11 (s : ByteArray) (form : Int) (w : World) (hs : s.size ≤ maxLen) : Calls Try.prog 11 #[.string s, .int .i64 form] w fun en w' => en = .returned (.bool (decide (s.size ≤ 1048576))) ∧ w = w' := by
  unfold maxLen at hs
  by_cases h : s.size ≤ 1048576
  · rw [decide_eq_true h]
    go_enter Try.func11, Try.ntmps11
    go_wp2
    go_ret
    exact ⟨rfl, rfl⟩
  · rw [decide_eq_false h]
    go_enter Try.func11, Try.ntmps11
    go_wp2
    go_ret
    exact ⟨rfl, rfl⟩

theorem len12 (s : ByteArray) (form : Int) (w : World) (h1 : s.size ≤ 1048576) :
    Calls Try.prog 12 #[.string s, .int .i64 form] w fun en w' => en = .returned (.int .i64 (Nl.nl (form == 1) (bv s) s.size)) ∧ w = w' := by
  have H := hide (fun w => len19 s form w h1)
  go_enter Try.func12, Try.ntmps12
  go_wp2_with (go_at_call 19; refine (unhide H _).mono ?_; rintro en w' ⟨rfl, rfl⟩)
  go_ret
  exact ⟨rfl, rfl⟩

theorem au_any (s : ByteArray) (str : Bool) (w : World) (h1 : s.size ≤ 1048576) :
    Calls Try.prog 13 #[.string s, .bool str] w fun en w' => en = .returned (.int .i64 (Nl.nl str (bv s) s.size)) ∧ w = w' := by
  rw [← Nl.law]
  cases str
  · exact au_false s w h1
  · exact au_true s w h1

theorem nl_law (s : ByteArray) (form : Int) (w : World) (hs : s.size ≤ maxLen) : Calls Try.prog 4 #[.string s, .int .i64 form] w fun en w' => en = .returned (.bool true) ∧ Grown w w' := by
  have HC := hide (fun w => bytes11 s form w hs)
  unfold maxLen at hs
  by_cases h : s.size ≤ 1048576
  · rw [decide_eq_true h] at HC
    have HL := hide (fun w => len12 s form w h)
    have HA := hide (fun w => au_any s (form == 1) w h)
    go_enter Try.func4, Try.ntmps4
    go_wp2_with (first | (go_at_call 11; refine (unhide HC _).mono ?_; rintro en w' ⟨rfl, rfl⟩) | (go_at_call 12; refine (unhide HL _).mono ?_; rintro en w' ⟨rfl, rfl⟩) | (go_at_call 13; refine (unhide HA _).mono ?_; rintro en w' ⟨rfl, rfl⟩))
    go_ret
    exact ⟨by simp, Grown.refl _⟩
  · rw [decide_eq_false h] at HC
    go_enter Try.func4, Try.ntmps4
    go_wp2_with (go_at_call 11; refine (unhide HC _).mono ?_; rintro en w' ⟨rfl, rfl⟩)
    go_ret
    exact ⟨rfl, Grown.refl _⟩
end Go.Proofs.Qxb6604056a
