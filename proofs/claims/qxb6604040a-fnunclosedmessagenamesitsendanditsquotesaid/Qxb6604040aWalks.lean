import Derived.Test.Qxb6604040aRows
import Derived.WalkKit
import Derived.WalkSpells
import Derived.WalkLawsBesides
import Derived.Deep.QuietTactic
import Derived.BigQuiet
import Derived.RowKit3
namespace Go.Proofs.Qxb6604040a
open Go.RowKit
set_option linter.unusedVariables false

theorem hide {p : Prop} (h : p) : Hid p := h
theorem unhide {p : Prop} (h : Hid p) : p := h

/-- quoted identifier is not closed before the end of the line -/
def M4L : ByteArray := ⟨#[113, 117, 111, 116, 101, 100, 32, 105, 100, 101, 110, 116, 105, 102, 105, 101, 114, 32, 105, 115, 32, 110, 111, 116, 32, 99, 108, 111, 115, 101, 100, 32, 98, 101, 102, 111, 114, 101, 32, 116, 104, 101, 32, 101, 110, 100, 32, 111, 102, 32, 116, 104, 101, 32, 108, 105, 110, 101]⟩
/-- quoted identifier is not closed before the end of the input -/
def M4F : ByteArray := ⟨#[113, 117, 111, 116, 101, 100, 32, 105, 100, 101, 110, 116, 105, 102, 105, 101, 114, 32, 105, 115, 32, 110, 111, 116, 32, 99, 108, 111, 115, 101, 100, 32, 98, 101, 102, 111, 114, 101, 32, 116, 104, 101, 32, 101, 110, 100, 32, 111, 102, 32, 116, 104, 101, 32, 105, 110, 112, 117, 116]⟩
/-- string literal is not closed before the end of the line -/
def M8L : ByteArray := ⟨#[115, 116, 114, 105, 110, 103, 32, 108, 105, 116, 101, 114, 97, 108, 32, 105, 115, 32, 110, 111, 116, 32, 99, 108, 111, 115, 101, 100, 32, 98, 101, 102, 111, 114, 101, 32, 116, 104, 101, 32, 101, 110, 100, 32, 111, 102, 32, 116, 104, 101, 32, 108, 105, 110, 101]⟩
/-- string literal is not closed before the end of the input -/
def M8F : ByteArray := ⟨#[115, 116, 114, 105, 110, 103, 32, 108, 105, 116, 101, 114, 97, 108, 32, 105, 115, 32, 110, 111, 116, 32, 99, 108, 111, 115, 101, 100, 32, 98, 101, 102, 111, 114, 101, 32, 116, 104, 101, 32, 101, 110, 100, 32, 111, 102, 32, 116, 104, 101, 32, 105, 110, 112, 117, 116]⟩
/-- bytes literal is not closed before the end of the line -/
def M9L : ByteArray := ⟨#[98, 121, 116, 101, 115, 32, 108, 105, 116, 101, 114, 97, 108, 32, 105, 115, 32, 110, 111, 116, 32, 99, 108, 111, 115, 101, 100, 32, 98, 101, 102, 111, 114, 101, 32, 116, 104, 101, 32, 101, 110, 100, 32, 111, 102, 32, 116, 104, 101, 32, 108, 105, 110, 101]⟩
/-- bytes literal is not closed before the end of the input -/
def M9F : ByteArray := ⟨#[98, 121, 116, 101, 115, 32, 108, 105, 116, 101, 114, 97, 108, 32, 105, 115, 32, 110, 111, 116, 32, 99, 108, 111, 115, 101, 100, 32, 98, 101, 102, 111, 114, 101, 32, 116, 104, 101, 32, 101, 110, 100, 32, 111, 102, 32, 116, 104, 101, 32, 105, 110, 112, 117, 116]⟩
/-- before the end of the line -/
def SL : ByteArray := ⟨#[98, 101, 102, 111, 114, 101, 32, 116, 104, 101, 32, 101, 110, 100, 32, 111, 102, 32, 116, 104, 101, 32, 108, 105, 110, 101]⟩
/-- before the end of the input -/
def SF : ByteArray := ⟨#[98, 101, 102, 111, 114, 101, 32, 116, 104, 101, 32, 101, 110, 100, 32, 111, 102, 32, 116, 104, 101, 32, 105, 110, 112, 117, 116]⟩

/-- The message. -/
def msgOf (k : Int) (eol : Bool) : ByteArray :=
  if k == 4 then (if eol then M4L else M4F) else if k == 9 then (if eol then M9L else M9F) else (if eol then M8L else M8F)

set_option maxRecDepth 100000 in
set_option maxHeartbeats 1000000 in
theorem msg6 (k : Int) (eol : Bool) (w : World) : Calls Try.prog 6 #[.int .u8 k, .bool eol] w fun en w' => en = .returned (.string (msgOf k eol)) ∧ w = w' := by
  unfold msgOf
  by_cases h4 : (k == 4) = true
  · rw [h4]
    cases eol
    all_goals
      go_enter Try.func6, Try.ntmps6
      go_wp2
      go_ret
      exact ⟨rfl, rfl⟩
  · have h4' : (k == 4) = false := by simpa using h4
    rw [h4']
    by_cases h9 : (k == 9) = true
    · rw [h9]
      cases eol
      all_goals
        go_enter Try.func6, Try.ntmps6
        go_wp2
        go_ret
        exact ⟨rfl, rfl⟩
    · have h9' : (k == 9) = false := by simpa using h9
      rw [h9']
      cases eol
      all_goals
        go_enter Try.func6, Try.ntmps6
        go_wp2
        go_ret
        exact ⟨rfl, rfl⟩

theorem msg4 (k : Int) (eol : Bool) (w : World) : Calls Try.prog 4 #[.int .u8 k, .bool eol] w fun en w' => en = .returned (.string (msgOf k eol)) ∧ w = w' := by
  go_enter Try.func4, Try.ntmps4
  go_wp2_with (go_at_call 6; refine (msg6 _ _ _).mono ?_; rintro en w' ⟨rfl, rfl⟩)
  go_ret
  exact ⟨rfl, rfl⟩

theorem ret_bool {a b : Bool} (h : a = b) : Ending.returned (.bool a) = .returned (.bool b) := by rw [h]
/-- hasSuffix, on bytes: t is what stands in s from o on. -/
def sufB (s t : ByteArray) (o : Nat) : Bool := s.data.toList.drop o == t.data.toList
theorem at_data (s : ByteArray) (i : Nat) (h : i < s.size) : s.data.toList[i]? = some s[i] := by
  rw [List.getElem?_eq_getElem (by simpa using h)]; rfl
theorem suf_true (s t : ByteArray) (o k : Nat) (ht : o + t.size = s.size) (hk : ¬ k < t.size) (h : ∀ i, i < k → s.data.toList[o + i]? = t.data.toList[i]?) : sufB s t o = true := by
  unfold sufB
  rw [beq_iff_eq]
  apply List.ext_getElem?
  intro i
  rw [List.getElem?_drop]
  by_cases hi : i < k
  · exact h i hi
  · rw [List.getElem?_eq_none (by simp; omega), List.getElem?_eq_none (by simp; omega)]
theorem suf_false (s t : ByteArray) (o k : Nat) (h1 : o + k < s.size) (h2 : k < t.size) (h : ((s[o + k].toNat : Int) != (t[k].toNat : Int)) = true) : sufB s t o = false := by
  unfold sufB
  rw [beq_eq_false_iff_ne]
  intro e
  have e1 := congrArg (fun l => l[k]?) e
  simp only [List.getElem?_drop] at e1
  rw [at_data s _ h1, at_data t _ h2] at e1
  have e2 := Option.some.inj e1
  rw [e2] at h
  simp at h
theorem suf_step (s t : ByteArray) (o k : Nat) (h1 : o + k < s.size) (h2 : k < t.size) (h : ((s[o + k].toNat : Int) != (t[k].toNat : Int)) = false) (hp : ∀ i, i < k → s.data.toList[o + i]? = t.data.toList[i]?) :
    ∀ i, i < k + 1 → s.data.toList[o + i]? = t.data.toList[i]? := by
  intro i hi
  rcases Nat.lt_or_ge i k with hh | hh
  · exact hp i hh
  · obtain rfl : i = k := by omega
    rw [at_data s _ h1, at_data t _ h2]
    have : (s[o + i].toNat : Int) = (t[i].toNat : Int) := by simpa using h
    have e : s[o + i].toNat = t[i].toNat := by omega
    rw [UInt8.toNat_inj.1 e]

set_option maxRecDepth 100000 in
set_option maxHeartbeats 1000000 in
theorem suffix_any (s t : ByteArray) (o : Nat) (w : World) (hs : s.size ≤ 1000) (ht : o + t.size = s.size) : Calls Try.prog 5 #[.string s, .string t] w fun en w' => en = .returned (.bool (sufB s t o)) ∧ ∃ m, w' = w.drewN m := by
  have hoff : (s.size : Int) - t.size = o := by omega
  have hle : ¬ (s.size : Int) < t.size := by omega
  have hlt2 : t.size ≤ 1000 := by omega
  have ho : o ≤ 1000 := by omega
  go_enter Try.func5, Try.ntmps5
  go_wp2
  go_loopw [6] (fun iv wr => ∃ (k m : Nat), k ≤ t.size ∧ iv = .int .i64 k ∧ wr = w.drewN m ∧ Hid (∀ i, i < k → s.data.toList[o + i]? = t.data.toList[i]?)) (fun iv _ => t.size - (intOf iv).toNat)
  case atStart => exact ⟨0, 0, by omega, rfl, rfl, fun i hi => by omega⟩
  case round =>
    obtain ⟨k, m, hk, rfl, rfl, HP⟩ := hrel
    by_cases hlt : k < t.size
    · have hok : (o : Int) + k < s.size := by omega
      have hok0 : (0 : Int) ≤ (o : Int) + k := by omega
      have hwr : IntKind.i64.wrap ((o : Int) + k) = (o : Int) + k := by simp [IntKind.wrap_i64]; omega
      have hn : o + k < s.size := by omega
      go_wp2
      go_quiet (fail)
      go_wp2
      · go_ret
        exact ⟨ret_bool (suf_false s t o k hn hlt ‹_›).symm, _, World.drewN_drewN _ _ _⟩
      · go_roundw
        case rel => exact ⟨k + 1, _, by omega, by go_num, rfl, suf_step s t o k hn hlt ‹_› HP.out⟩
        case measure => simp [intOf]; omega
    · go_wp2
      go_ret
      exact ⟨ret_bool (suf_true s t o k ht hlt HP.out).symm, _, rfl⟩

theorem Grown.drewN {a w : World} (h : Grown a w) (n : Nat) : Grown a (w.drewN n) := h

/-- All that the law asks of the messages at one end, kind k. -/
theorem eq_facts (eol : Bool) (k : Int) : ((msgOf k eol).toList == (msgOf k (!eol)).toList) = false ∧ ((msgOf 4 eol).toList == (msgOf 9 eol).toList) = false ∧
    ((msgOf k eol).toList == (msgOf 8 eol).toList) = !((k == 4) || (k == 9)) := by
  have h44 : ∀ e, ((msgOf 4 e).toList == (msgOf 4 (!e)).toList) = false := by decide +kernel
  have h99 : ∀ e, ((msgOf 9 e).toList == (msgOf 9 (!e)).toList) = false := by decide +kernel
  have h88 : ∀ e, ((msgOf 8 e).toList == (msgOf 8 (!e)).toList) = false := by decide +kernel
  have h49 : ∀ e, ((msgOf 4 e).toList == (msgOf 9 e).toList) = false := by decide +kernel
  have h48 : ∀ e, ((msgOf 4 e).toList == (msgOf 8 e).toList) = false := by decide +kernel
  have h98 : ∀ e, ((msgOf 9 e).toList == (msgOf 8 e).toList) = false := by decide +kernel
  refine ⟨?_, h49 eol, ?_⟩
  · by_cases e4 : k = 4
    · subst e4; exact h44 eol
    · by_cases e9 : k = 9
      · subst e9; exact h99 eol
      · have e : ∀ e, msgOf k e = msgOf 8 e := fun e => by simp [msgOf, e4, e9]
        rw [e, e]; exact h88 eol
  · by_cases e4 : k = 4
    · subst e4; simpa using h48 eol
    · by_cases e9 : k = 9
      · subst e9; simpa using h98 eol
      · have e : ∀ e, msgOf k e = msgOf 8 e := fun e => by simp [msgOf, e4, e9]
        rw [e]; simp [e4, e9]
/-- Where the suffix stands. -/
theorem suf_facts (eol : Bool) (k : Int) : (msgOf k eol).size ≤ 1000 ∧ ∃ o o', o + SL.size = (msgOf k eol).size ∧ o' + SF.size = (msgOf k eol).size ∧ sufB (msgOf k eol) SL o = eol ∧ sufB (msgOf k eol) SF o' = !eol := by
  have h4 : ∀ e, (msgOf 4 e).size ≤ 1000 ∧ SL.size ≤ (msgOf 4 e).size ∧ SF.size ≤ (msgOf 4 e).size ∧ sufB (msgOf 4 e) SL ((msgOf 4 e).size - SL.size) = e ∧ sufB (msgOf 4 e) SF ((msgOf 4 e).size - SF.size) = !e := by decide +kernel
  have h9 : ∀ e, (msgOf 9 e).size ≤ 1000 ∧ SL.size ≤ (msgOf 9 e).size ∧ SF.size ≤ (msgOf 9 e).size ∧ sufB (msgOf 9 e) SL ((msgOf 9 e).size - SL.size) = e ∧ sufB (msgOf 9 e) SF ((msgOf 9 e).size - SF.size) = !e := by decide +kernel
  have h8 : ∀ e, (msgOf 8 e).size ≤ 1000 ∧ SL.size ≤ (msgOf 8 e).size ∧ SF.size ≤ (msgOf 8 e).size ∧ sufB (msgOf 8 e) SL ((msgOf 8 e).size - SL.size) = e ∧ sufB (msgOf 8 e) SF ((msgOf 8 e).size - SF.size) = !e := by decide +kernel
  have fin : ∀ m : ByteArray, (m.size ≤ 1000 ∧ SL.size ≤ m.size ∧ SF.size ≤ m.size ∧ sufB m SL (m.size - SL.size) = eol ∧ sufB m SF (m.size - SF.size) = !eol) → m.size ≤ 1000 ∧ ∃ o o', o + SL.size = m.size ∧ o' + SF.size = m.size ∧ sufB m SL o = eol ∧ sufB m SF o' = !eol :=
    fun m ⟨a, b, c, d, e⟩ => ⟨a, m.size - SL.size, m.size - SF.size, by omega, by omega, d, e⟩
  by_cases e4 : k = 4
  · subst e4; exact fin _ (h4 eol)
  · by_cases e9 : k = 9
    · subst e9; exact fin _ (h9 eol)
    · have e : msgOf k eol = msgOf 8 eol := by simp [msgOf, e4, e9]
      rw [e]; exact fin _ (h8 eol)

set_option maxRecDepth 100000 in
set_option maxHeartbeats 1000000 in
theorem law (k : Int) (eol : Bool) (w : World) : Calls Try.prog 3 #[.int .u8 k, .bool eol] w fun en w' => en = .returned (.bool true) ∧ Grown w w' := by
  obtain ⟨f1, f2, f3⟩ := eq_facts eol k
  obtain ⟨b1, o, o', ho, ho', s1, s2⟩ := suf_facts eol k
  have C1 := fun w => suffix_any (msgOf k eol) SL o w b1 ho
  have C2 := fun w => suffix_any (msgOf k eol) SF o' w b1 ho'
  rw [s1] at C1
  rw [s2] at C2
  have H1 := hide C1; have H2 := hide C2
  clear C1 C2 b1 ho ho' s1 s2
  by_cases e4 : (k == 4) = true
  · rw [e4] at f3
    cases eol
    all_goals
      simp only [Bool.not_true, Bool.not_false, Bool.true_or] at f1 f2 f3
      go_enter Try.func3, Try.ntmps3
      go_wp2_with (first | (go_at_call 4; refine (msg4 _ _ _).mono ?_; rintro en w' ⟨rfl, rfl⟩) | (go_at_call 5; refine (unhide H1 _).mono ?_; rintro en w' ⟨rfl, m, rfl⟩; clear H1) | (go_at_call 5; refine (unhide H2 _).mono ?_; rintro en w' ⟨rfl, m, rfl⟩; clear H2))
      go_ret
      exact ⟨rfl, by repeat (first | exact Grown.refl _ | apply Grown.drewN)⟩
  · have e4' : (k == 4) = false := by simpa using e4
    rw [e4'] at f3
    clear e4
    by_cases e9 : (k == 9) = true
    · rw [e9] at f3
      cases eol
      all_goals
        simp only [Bool.not_true, Bool.not_false, Bool.or_true] at f1 f2 f3
        go_enter Try.func3, Try.ntmps3
        go_wp2_with (first | (go_at_call 4; refine (msg4 _ _ _).mono ?_; rintro en w' ⟨rfl, rfl⟩) | (go_at_call 5; refine (unhide H1 _).mono ?_; rintro en w' ⟨rfl, m, rfl⟩; clear H1) | (go_at_call 5; refine (unhide H2 _).mono ?_; rintro en w' ⟨rfl, m, rfl⟩; clear H2))
        go_ret
        exact ⟨rfl, by repeat (first | exact Grown.refl _ | apply Grown.drewN)⟩
    · have e9' : (k == 9) = false := by simpa using e9
      rw [e9'] at f3
      clear e9
      cases eol
      all_goals
        simp only [Bool.not_true, Bool.not_false, Bool.or_self] at f1 f2 f3
        go_enter Try.func3, Try.ntmps3
        go_wp2_with (first | (go_at_call 4; refine (msg4 _ _ _).mono ?_; rintro en w' ⟨rfl, rfl⟩) | (go_at_call 5; refine (unhide H1 _).mono ?_; rintro en w' ⟨rfl, m, rfl⟩; clear H1) | (go_at_call 5; refine (unhide H2 _).mono ?_; rintro en w' ⟨rfl, m, rfl⟩; clear H2))
        go_ret
        exact ⟨rfl, by repeat (first | exact Grown.refl _ | apply Grown.drewN)⟩
end Go.Proofs.Qxb6604040a
