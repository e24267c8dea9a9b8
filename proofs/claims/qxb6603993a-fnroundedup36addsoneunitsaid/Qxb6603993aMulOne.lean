import Derived.Test.Qxb6603993aMul
namespace Go.Proofs.Qxb6603993a
open Go.RowKit
set_option linter.unusedVariables false

set_option maxRecDepth 100000 in
set_option maxHeartbeats 1000000 in
theorem same36 (h l e : Int) (neg : Bool) (w : World) :
    Calls Try.prog 16 #[.agg #[.int .u64 h, .int .u64 l, .int .i32 e, .bool neg], .int .u64 h, .int .u64 l, .int .i32 e, .bool neg] w fun en w' =>
      en = .returned (.bool true) ∧ Q w w' := by
  go_enter Try.func16, Try.ntmps16
  go_wp2_with (go_at_call 21; refine (parts36 _ _ _ _ _).mono ?_; rintro en w' ⟨rfl, c, n, rfl⟩)
  go_ret
  exact ⟨by simp, (((Q.refl _).alloc _ _).alloc _ _).drewN _⟩

theorem calls_gen {P : Program} {f : Nat} {args : Array Value} {w : World} {K : Ending → World → Prop} (F : World → Prop) (hF : F w) (h : ∀ w, F w → Calls P f args w K) : Calls P f args w K := h w hF

/-- The three numbers in their variables. -/
def F (w W : World) (h l e : Int) (neg : Bool) : Prop :=
  Q w W ∧ w.heap.size + 1 + 1 + 1 + 1 + 1 + 1 ≤ W.heap.size ∧
  (W.cell? ⟨w.heap.size + 1, 0, none⟩ = some (.int .u64 h) ∧ W.cell? ⟨w.heap.size + 1, 1, none⟩ = some (.int .u64 l) ∧ W.cell? ⟨w.heap.size + 1, 2, none⟩ = some (.int .i32 e) ∧ W.cell? ⟨w.heap.size + 1, 3, none⟩ = some (.bool neg)) ∧
  (W.cell? ⟨w.heap.size + 1 + 1 + 1, 0, none⟩ = some (.int .u64 100000000000000000) ∧ W.cell? ⟨w.heap.size + 1 + 1 + 1, 1, none⟩ = some (.int .u64 0) ∧ W.cell? ⟨w.heap.size + 1 + 1 + 1, 2, none⟩ = some (.int .i32 (-35)) ∧ W.cell? ⟨w.heap.size + 1 + 1 + 1, 3, none⟩ = some (.bool false)) ∧
  (W.cell? ⟨w.heap.size + 1 + 1 + 1 + 1 + 1, 0, none⟩ = some (.int .u64 100000000000000000) ∧ W.cell? ⟨w.heap.size + 1 + 1 + 1 + 1 + 1, 1, none⟩ = some (.int .u64 0) ∧ W.cell? ⟨w.heap.size + 1 + 1 + 1 + 1 + 1, 2, none⟩ = some (.int .i32 (-35)) ∧ W.cell? ⟨w.heap.size + 1 + 1 + 1 + 1 + 1, 3, none⟩ = some (.bool true))

theorem F.keep {w W W' : World} {h l e : Int} {neg : Bool} (f : F w W h l e neg) (q : Q W W') : F w W' h l e neg := by
  obtain ⟨q0, hs, ⟨a0, a1, a2, a3⟩, ⟨b0, b1, b2, b3⟩, ⟨c0, c1, c2, c3⟩⟩ := f
  have k : ∀ (b o : Nat), b < W.heap.size → W'.cell? ⟨b, o, none⟩ = W.cell? ⟨b, o, none⟩ := fun b o hb => q.1.cell (p := ⟨b, o, none⟩) hb
  have s1 : w.heap.size + 1 < W.heap.size := by omega
  have s2 : w.heap.size + 1 + 1 + 1 < W.heap.size := by omega
  have s3 : w.heap.size + 1 + 1 + 1 + 1 + 1 < W.heap.size := by omega
  refine ⟨q0.trans q, Nat.le_trans hs q.1.size, ⟨?_, ?_, ?_, ?_⟩, ⟨?_, ?_, ?_, ?_⟩, ⟨?_, ?_, ?_, ?_⟩⟩
  · rw [k _ _ s1, a0]
  · rw [k _ _ s1, a1]
  · rw [k _ _ s1, a2]
  · rw [k _ _ s1, a3]
  · rw [k _ _ s2, b0]
  · rw [k _ _ s2, b1]
  · rw [k _ _ s2, b2]
  · rw [k _ _ s2, b3]
  · rw [k _ _ s3, c0]
  · rw [k _ _ s3, c1]
  · rw [k _ _ s3, c2]
  · rw [k _ _ s3, c3]

theorem F.mk (w : World) (c1 c2 c3 : Array Value) (h l e : Int) (neg : Bool) :
    F w ((((((w.alloc (.cells c1 32)).alloc (.cells #[.int .u64 h, .int .u64 l, .int .i32 e, .bool neg] 32)).alloc (.cells c2 32)).alloc (.cells #[.int .u64 100000000000000000, .int .u64 0, .int .i32 (-35), .bool false] 32)).alloc (.cells c3 32)).alloc (.cells #[.int .u64 100000000000000000, .int .u64 0, .int .i32 (-35), .bool true] 32)) h l e neg := by
  refine ⟨((((((Q.refl w).alloc _ _).alloc _ _).alloc _ _).alloc _ _).alloc _ _).alloc _ _, by simp, ⟨?_, ?_, ?_, ?_⟩, ⟨?_, ?_, ?_, ?_⟩, ⟨?_, ?_, ?_, ?_⟩⟩ <;> simp [go_sem]

set_option maxRecDepth 100000 in
set_option maxHeartbeats 2000000 in
theorem law_zero (l e : Int) (neg : Bool) (w : World) :
    Calls Try.prog 5 #[.int .u64 0, .int .u64 l, .int .i32 e, .bool neg] w fun en w' => en = .returned (.bool true) ∧ Grown w w' := by
  have hb : in36B 0 l = true := by simp [in36B]
  have ht : ((100000000000000000 : Int) == 0) = false := by decide
  go_enter Try.func5, Try.ntmps5
  go_wp2_with (first | (go_at_call 12; refine (in36_any _ _ _).mono ?_; rintro en w' ⟨rfl, hw⟩; obtain rfl := hw.symm) | (go_at_call 13; refine (make36 _ _ _ _ _).mono ?_; rintro en w' ⟨rfl, c, rfl⟩))
  refine calls_gen (fun W => F w W 0 l e neg) (F.mk w _ _ _ _ _ _ _) ?_
  intro W hF
  refine (mul_zero_l _ _ _ _ _ _ _ _).mono ?_
  rintro en w1 ⟨rfl, q1⟩
  go_wp2_with fail
  refine (same36 _ _ _ _ _).mono ?_
  rintro en w2 ⟨rfl, q2⟩
  have hF1 := hF.keep (q1.trans q2); clear hF q1 q2
  obtain ⟨q0, hs, ⟨a0, a1, a2, a3⟩, ⟨b0, b1, b2, b3⟩, ⟨c0, c1, c2, c3⟩⟩ := id hF1
  go_wp2_with fail
  refine (mul_zero_r _ _ _ _ _ _ _ _ ht).mono ?_
  rintro en w3 ⟨rfl, q1⟩
  clear q0 hs a0 a1 a2 a3 b0 b1 b2 b3 c0 c1 c2 c3
  go_wp2_with fail
  refine (same36 _ _ _ _ _).mono ?_
  rintro en w4 ⟨rfl, q2⟩
  have hF2 := hF1.keep (q1.trans q2); clear hF1 q1 q2
  obtain ⟨q0, hs, ⟨a0, a1, a2, a3⟩, ⟨b0, b1, b2, b3⟩, ⟨c0, c1, c2, c3⟩⟩ := id hF2
  go_wp2_with fail
  refine (mul_zero_l _ _ _ _ _ _ _ _).mono ?_
  rintro en w5 ⟨rfl, q1⟩
  clear q0 hs a0 a1 a2 a3 b0 b1 b2 b3 c0 c1 c2 c3
  go_wp2_with fail
  refine (same36 _ _ _ _ _).mono ?_
  rintro en w6 ⟨rfl, q2⟩
  have hF3 := hF2.keep (q1.trans q2); clear hF2 q1 q2
  obtain ⟨q0, hs, ⟨a0, a1, a2, a3⟩, ⟨b0, b1, b2, b3⟩, ⟨c0, c1, c2, c3⟩⟩ := id hF3
  go_wp2_with fail
  refine (mul_zero_r _ _ _ _ _ _ _ _ ht).mono ?_
  rintro en w7 ⟨rfl, q1⟩
  clear q0 hs a0 a1 a2 a3 b0 b1 b2 b3 c0 c1 c2 c3
  go_wp2_with fail
  refine (same36 _ _ _ _ _).mono ?_
  rintro en w8 ⟨rfl, q2⟩
  have hF4 := hF3.keep (q1.trans q2); clear hF3 q1 q2
  go_wp2_with fail
  go_ret
  exact ⟨rfl, hF4.1.grown⟩

theorem law_out (h l e : Int) (neg : Bool) (w : World) (hb : in36B h l = false) :
    Calls Try.prog 5 #[.int .u64 h, .int .u64 l, .int .i32 e, .bool neg] w fun en w' => en = .returned (.bool true) ∧ Grown w w' := by
  go_enter Try.func5, Try.ntmps5
  go_wp2_with (first | (go_at_call 12; refine (in36_any _ _ _).mono ?_; rintro en w' ⟨rfl, hw⟩; obtain rfl := hw.symm))
  go_ret
  exact ⟨rfl, Grown.refl _⟩

set_option maxRecDepth 100000 in
set_option maxHeartbeats 2000000 in
theorem law_one (h l e : Int) (neg : Bool) (w : World) (h1 : 100000000000000000 ≤ h) (h2 : h < 1000000000000000000) (l1 : 0 ≤ l) (l2 : l < 1000000000000000000) (he1 : -2147483648 ≤ e) (he2 : e ≤ 2147483647) :
    Calls Try.prog 5 #[.int .u64 h, .int .u64 l, .int .i32 e, .bool neg] w fun en w' => en = .returned (.bool true) ∧ Grown w w' := by
  have hz : (h == 0) = false := beq_eq_false_iff_ne.2 (by omega)
  have hb : in36B h l = true := by simp [in36B]; omega
  have R := fun neg neg' w => mul_one_r h l e _ _ _ _ neg neg' w hz l1 (by omega) rfl rfl rfl rfl (by omega) (by omega) (by omega) (by omega) (by omega) (by omega) (by omega) (by omega) he1 he2
  have L := fun neg neg' w => mul_one_l h l e _ _ _ _ neg neg' w hz l1 (by omega) rfl rfl rfl rfl (by omega) (by omega) (by omega) (by omega) (by omega) (by omega) (by omega) (by omega) he1 he2
  have HR := hide R; have HL := hide L; clear R L h1 h2 l1 l2 he1 he2
  cases neg
  all_goals
    go_enter Try.func5, Try.ntmps5
    go_wp2_with (first | (go_at_call 12; refine (in36_any _ _ _).mono ?_; rintro en w' ⟨rfl, hw⟩; obtain rfl := hw.symm) | (go_at_call 13; refine (make36 _ _ _ _ _).mono ?_; rintro en w' ⟨rfl, c, rfl⟩))
    refine calls_gen (fun W => F w W h l e _) (F.mk w _ _ _ _ _ _ _) ?_
    intro W hF
    refine (unhide HR _ _ _).mono ?_
    rintro en w1 ⟨rfl, q1⟩
    go_wp2_with fail
    refine (same36 _ _ _ _ _).mono ?_
    rintro en w2 ⟨rfl, q2⟩
    have hF1 := hF.keep (q1.trans q2); clear hF q1 q2
    obtain ⟨q0, hs, ⟨a0, a1, a2, a3⟩, ⟨b0, b1, b2, b3⟩, ⟨c0, c1, c2, c3⟩⟩ := id hF1
    go_wp2_with fail
    refine (unhide HL _ _ _).mono ?_
    rintro en w3 ⟨rfl, q1⟩
    clear q0 hs a0 a1 a2 a3 b0 b1 b2 b3 c0 c1 c2 c3
    go_wp2_with fail
    refine (same36 _ _ _ _ _).mono ?_
    rintro en w4 ⟨rfl, q2⟩
    have hF2 := hF1.keep (q1.trans q2); clear hF1 q1 q2
    obtain ⟨q0, hs, ⟨a0, a1, a2, a3⟩, ⟨b0, b1, b2, b3⟩, ⟨c0, c1, c2, c3⟩⟩ := id hF2
    go_wp2_with fail
    refine (unhide HR _ _ _).mono ?_
    rintro en w5 ⟨rfl, q1⟩
    clear q0 hs a0 a1 a2 a3 b0 b1 b2 b3 c0 c1 c2 c3
    go_wp2_with fail
    refine (same36 _ _ _ _ _).mono ?_
    rintro en w6 ⟨rfl, q2⟩
    have hF3 := hF2.keep (q1.trans q2); clear hF2 q1 q2
    obtain ⟨q0, hs, ⟨a0, a1, a2, a3⟩, ⟨b0, b1, b2, b3⟩, ⟨c0, c1, c2, c3⟩⟩ := id hF3
    go_wp2_with fail
    refine (unhide HL _ _ _).mono ?_
    rintro en w7 ⟨rfl, q1⟩
    clear q0 hs a0 a1 a2 a3 b0 b1 b2 b3 c0 c1 c2 c3
    go_wp2_with fail
    refine (same36 _ _ _ _ _).mono ?_
    rintro en w8 ⟨rfl, q2⟩
    have hF4 := hF3.keep (q1.trans q2); clear hF3 q1 q2
    go_wp2_with fail
    go_ret
    exact ⟨rfl, hF4.1.grown⟩
end Go.Proofs.Qxb6603993a
