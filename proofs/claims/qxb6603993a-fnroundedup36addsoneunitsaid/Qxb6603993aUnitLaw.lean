import Derived.Test.Qxb6603993aUnit
namespace Go.Proofs.Qxb6603993a
open Go.RowKit
set_option linter.unusedVariables false

set_option maxRecDepth 100000 in
set_option maxHeartbeats 1000000 in
theorem unit_false (h l e : Int) (neg : Bool) (w : World) :
    Calls Try.prog 6 #[.int .u64 h, .int .u64 l, .int .i32 e, .bool neg, .bool false] w fun en w' => en = .returned (.bool true) ∧ Grown w w' := by
  go_enter Try.func6, Try.ntmps6
  go_wp2_with (first | (go_at_call 13; refine (make36 _ _ _ _ _).mono ?_; rintro en w' ⟨rfl, c, rfl⟩) | (go_at_call 17; refine (zru (ru_false _ _ _ _ ·) _).mono ?_; rintro en w' ⟨rfl, q⟩) | (go_at_call 16; refine (same36 _ _ _ _ _).mono ?_; rintro en w' ⟨rfl, q2⟩))
  go_ret
  exact ⟨rfl, (((((Q.refl _).alloc _ _).trans q).alloc _ _).trans q2).grown⟩

set_option maxHeartbeats 1000000 in
theorem unit_out (h l e : Int) (neg : Bool) (w : World) (hc : h = 0 ∨ ((h == 0) = false ∧ in36B h l = false)) :
    Calls Try.prog 6 #[.int .u64 h, .int .u64 l, .int .i32 e, .bool neg, .bool true] w fun en w' => en = .returned (.bool true) ∧ Grown w w' := by
  rcases hc with rfl | ⟨hz, hc⟩
  · go_enter Try.func6, Try.ntmps6
    go_wp2
    go_ret
    exact ⟨rfl, Grown.refl _⟩
  · go_enter Try.func6, Try.ntmps6
    go_wp2_with (go_at_call 12; refine (in36_any _ _ _).mono ?_; rintro en w' ⟨rfl, hw⟩; obtain rfl := hw.symm)
    go_ret
    exact ⟨rfl, Grown.refl _⟩

set_option maxRecDepth 100000 in
set_option maxHeartbeats 1000000 in
theorem unit_gen (h l e : Int) (neg : Bool) (h' l' e' : Int) (a0 a1 : Array Value) (hz : (h == 0) = false) (hb : in36B h l = true)
    (hi : (Try.prog.info? 41).map (·.size) = some a1.size) (ho : a1.all (·.oneCell') = true) (hs : a1.size = 36)
    (R : ∀ w, Calls Try.prog 26 #[.agg #[.int .u64 h, .int .u64 l, .int .i32 e, .bool neg], .bool true] w fun en w' => en = .returned (.agg #[.int .u64 h', .int .u64 l', .int .i32 e', .bool neg]) ∧ ∃ c d, w' = (w.alloc (.cells c 32)).alloc (.cells d 32))
    (D : ∀ w, Calls Try.prog 19 #[.int .u64 h, .int .u64 l] w fun en w' => en = .returned (.agg a0) ∧ ∃ c d, w' = (w.alloc (.cells c 41)).alloc (.cells d 41))
    (I : ∀ w, Calls Try.prog 18 #[.agg a0, .int .i32 e] w fun en w' => en = .returned (.tuple #[.agg a1, .int .i32 e']) ∧ ∃ c d, w' = (w.alloc (.cells c 41)).alloc (.cells d 41))
    (P : ∀ w, Calls Try.prog 20 #[.agg a1] w fun en w' => en = .returned (.tuple #[.int .u64 h', .int .u64 l']) ∧ ∃ c, w' = w.alloc (.cells c 41)) (w : World) :
    Calls Try.prog 6 #[.int .u64 h, .int .u64 l, .int .i32 e, .bool neg, .bool true] w fun en w' => en = .returned (.bool true) ∧ Grown w w' := by
  have HR := hide (zru R); have HD := hide D; have HI := hide I; have HP := hide P; have H5 := hide hi; have H6 := hide ho; have HS := hide hs
  clear R D I P hi ho hs
  go_enter Try.func6, Try.ntmps6
  go_wp2_with (first | (go_at_call 12; refine (in36_any _ _ _).mono ?_; rintro en w' ⟨rfl, hw⟩; obtain rfl := hw.symm) | (go_at_call 13; refine (make36 _ _ _ _ _).mono ?_; rintro en w' ⟨rfl, c, rfl⟩) | (go_at_call 17; refine (unhide HR _).mono ?_; rintro en w1 ⟨rfl, q⟩))
  refine (unhide HD _).mono ?_
  rintro en w2 ⟨rfl, c1, d1, rfl⟩
  go_wp2_with fail
  refine calls_gen (fun W => Q w W ∧ w1.heap.size < W.heap.size ∧ W.cell? ⟨w1.heap.size, 0, none⟩ = some (.int .u64 h') ∧ W.cell? ⟨w1.heap.size, 1, none⟩ = some (.int .u64 l') ∧ W.cell? ⟨w1.heap.size, 2, none⟩ = some (.int .i32 e') ∧ W.cell? ⟨w1.heap.size, 3, none⟩ = some (.bool neg)) ⟨?_, ?_, ?_, ?_, ?_, ?_⟩ ?_
  · exact (((((Q.refl _).alloc _ _).trans q).alloc _ _).alloc _ _).alloc _ _
  · simp; omega
  · simp [go_sem]
  · simp [go_sem]
  · simp [go_sem]
  · simp [go_sem]
  clear q
  rintro W ⟨q, hlt, z0, z1, z2, z3⟩
  refine (unhide HI _).mono ?_
  rintro en w3 ⟨rfl, c2, d2, rfl⟩
  have r1 := row_last ((W.alloc (.cells c2 41)).alloc (.cells d2 41)) (.cells #[.int .i64 0, .int .i64 0, .int .i64 0, .int .i64 0, .int .i64 0, .int .i64 0, .int .i64 0, .int .i64 0, .int .i64 0, .int .i64 0, .int .i64 0, .int .i64 0, .int .i64 0, .int .i64 0, .int .i64 0, .int .i64 0, .int .i64 0, .int .i64 0, .int .i64 0, .int .i64 0, .int .i64 0, .int .i64 0, .int .i64 0, .int .i64 0, .int .i64 0, .int .i64 0, .int .i64 0, .int .i64 0, .int .i64 0, .int .i64 0, .int .i64 0, .int .i64 0, .int .i64 0, .int .i64 0, .int .i64 0, .int .i64 0] 41)
  have r2 := row_last ((W.alloc (.cells c2 41)).alloc (.cells d2 41)) (.cells a1 41)
  have e1 : ((W.alloc (.cells c2 41)).alloc (.cells d2 41)).heap.size = W.heap.size + 1 + 1 := by simp
  have r3 := setRow_alloc_at ((W.alloc (.cells c2 41)).alloc (.cells d2 41)) #[.int .i64 0, .int .i64 0, .int .i64 0, .int .i64 0, .int .i64 0, .int .i64 0, .int .i64 0, .int .i64 0, .int .i64 0, .int .i64 0, .int .i64 0, .int .i64 0, .int .i64 0, .int .i64 0, .int .i64 0, .int .i64 0, .int .i64 0, .int .i64 0, .int .i64 0, .int .i64 0, .int .i64 0, .int .i64 0, .int .i64 0, .int .i64 0, .int .i64 0, .int .i64 0, .int .i64 0, .int .i64 0, .int .i64 0, .int .i64 0, .int .i64 0, .int .i64 0, .int .i64 0, .int .i64 0, .int .i64 0, .int .i64 0] a1 41
  rw [e1] at r1 r2 r3
  have H1 := hide r1; have H2 := hide r2; have H3 := hide r3
  have H4 : Hid ((#[.int .i64 0, .int .i64 0, .int .i64 0, .int .i64 0, .int .i64 0, .int .i64 0, .int .i64 0, .int .i64 0, .int .i64 0, .int .i64 0, .int .i64 0, .int .i64 0, .int .i64 0, .int .i64 0, .int .i64 0, .int .i64 0, .int .i64 0, .int .i64 0, .int .i64 0, .int .i64 0, .int .i64 0, .int .i64 0, .int .i64 0, .int .i64 0, .int .i64 0, .int .i64 0, .int .i64 0, .int .i64 0, .int .i64 0, .int .i64 0, .int .i64 0, .int .i64 0, .int .i64 0, .int .i64 0, .int .i64 0, .int .i64 0] : Array Value).size = a1.size) := by show _ = _; rw [HS.out]; rfl
  clear r1 r2 r3 e1
  go_wp2_with (first | (refine wpList_store_row rfl 41 _ _ rfl (W.heap.size + 1 + 1) a1 rfl rfl 41 _ H1.out H5.out H4.out H6.out ?_; rw [show _ = _ from H3.out]) | (refine wpList_load_row rfl 41 _ rfl (W.heap.size + 1 + 1) rfl 41 a1 (0, 0) _ H2.out Try.underlying41 rfl H5.out ?_))
  refine (unhide HP _).mono ?_
  rintro en w4 ⟨rfl, c3, rfl⟩
  have hl1 : w1.heap.size < W.heap.size + 1 := by omega
  have hl2 : w1.heap.size < W.heap.size + 1 + 1 := by omega
  have hl3 : w1.heap.size < W.heap.size + 1 + 1 + 1 := by omega
  go_wp2_with fail
  refine (same36 _ _ _ _ _).mono ?_
  rintro en w5 ⟨rfl, q2⟩
  go_wp2_with fail
  go_ret
  exact ⟨rfl, (((((q.alloc _ _).alloc _ _).alloc _ _).alloc _ _).trans q2).grown⟩

theorem unit_low (h l e : Int) (neg : Bool) (w : World) (h1 : 100000000000000000 ≤ h) (h2 : h < 1000000000000000000) (l1 : 0 ≤ l) (l2 : l < 999999999999999999) :
    Calls Try.prog 6 #[.int .u64 h, .int .u64 l, .int .i32 e, .bool neg, .bool true] w fun en w' => en = .returned (.bool true) ∧ Grown w w' :=
  unit_gen h l e neg h (l + 1) e (A (dg h l)) (A (dg h (l + 1))) (beq_eq_false_iff_ne.2 (by omega)) (by simp [in36B]; omega) (A_info _) (A_one _) (A_size _)
    (ru_low h l e neg · l1 l2) (digits_any h l · (by omega) l1 h2 (by omega)) (inc_low h l e · l1 l2) (pack_any h (l + 1) · (by omega) (by omega) h2 (by omega)) w
theorem unit_mid (h e : Int) (neg : Bool) (w : World) (h1 : 100000000000000000 ≤ h) (h2 : h < 999999999999999999) :
    Calls Try.prog 6 #[.int .u64 h, .int .u64 999999999999999999, .int .i32 e, .bool neg, .bool true] w fun en w' => en = .returned (.bool true) ∧ Grown w w' :=
  unit_gen h 999999999999999999 e neg (h + 1) 0 e (A (dg h 999999999999999999)) (A (dg (h + 1) 0)) (beq_eq_false_iff_ne.2 (by omega)) (by simp [in36B]; omega) (A_info _) (A_one _) (A_size _)
    (ru_mid h e neg · (by omega) h2) (digits_any h _ · (by omega) (by decide) (by omega) (by decide)) (inc_mid h e · (by omega) h2) (pack_any (h + 1) 0 · (by omega) (by decide) (by omega) (by decide)) w
theorem unit_top (e : Int) (neg : Bool) (w : World) :
    Calls Try.prog 6 #[.int .u64 999999999999999999, .int .u64 999999999999999999, .int .i32 e, .bool neg, .bool true] w fun en w' => en = .returned (.bool true) ∧ Grown w w' :=
  unit_gen 999999999999999999 999999999999999999 e neg 100000000000000000 0 (wrap32 (e + 1)) (A (dg 999999999999999999 999999999999999999)) (A (dg 100000000000000000 0)) (by decide) (by decide) (A_info _) (A_one _) (A_size _)
    (ru_top e neg ·) (digits_any _ _ · (by decide) (by decide) (by decide) (by decide)) (inc_top e ·) (pack_any _ _ · (by decide) (by decide) (by decide) (by decide)) w
end Go.Proofs.Qxb6603993a
