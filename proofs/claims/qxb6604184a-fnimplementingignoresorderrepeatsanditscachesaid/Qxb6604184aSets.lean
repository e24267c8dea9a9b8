import Derived.Test.Qxb6604184aPlain
namespace Go.Proofs.Qxb6604184a
open Go.RowKit
set_option linter.unusedVariables false
set_option linter.unusedSimpArgs false

theorem zz_impl (gb im : Nat) (vt vi : Value) (w : World) (ms : List Mt) (tss : List (List Mt)) (l : Ents) (hl : ms.length ≤ 1000000000) (hs : sumI ms ≤ 1000000000) (hvi : MsAt w vi ms) (htl : tss.length ≤ 1000000000)
    (g3 : w.cell? ⟨gb, 3, none⟩ = some vt) (g4 : w.cell? ⟨gb, 4, none⟩ = some (.map (some im))) (ht : TmAt (· ≠ im) w vt tss) (hmap : MapIs w im l) :
    Calls Try.prog 12 #[.pointer (some ⟨gb, 0, none⟩), vi] w (ImplPost im ms tss l w) := by
  go_enter Try.func12, Try.ntmps12
  go_wp2_with fail
  refine (impl_calls gb im vt vi w ms tss l hl hs hvi htl g3 g4 ht hmap).mono ?_
  rintro e w1 ⟨v, rfl, h⟩
  have H := hide h
  clear h
  go_wp2
  go_ret
  exact ⟨v, rfl, H.out⟩

theorem below_drewN {B : Nat} {w w' : World} (h : Below B w w') (n : Nat) : Below B w (w'.drewN n) := ⟨h.os, h.tape, h.output, h.size, h.block⟩

theorem byID (r : Nat) (x : Value) (w : World) : Calls Try.prog 15 #[.agg #[.map (some r), .slice none 0 0]] w fun en w' =>
    en = .returned (.map (some r)) ∧ ∃ c, w' = w.alloc (.cells c 49) := by
  go_enter Try.func15, Try.ntmps15
  go_wp2
  go_ret
  exact ⟨rfl, _, rfl⟩

set_option maxHeartbeats 1000000 in
set_option maxRecDepth 100000 in
theorem holds_any (vt vi : Value) (ts ms : List Mt) (w : World) (ht : MsAt w vt ts) (hi : MsAt w vi ms) (hl : ts.length ≤ 140737488355328) (hl2 : ms.length ≤ 140737488355328) :
    Calls Try.prog 13 #[vt, vi] w fun en w' => en = .returned (.bool (hold ms ts)) ∧ Below w.heap.size w w' := by
  have HT0 := hide ht
  obtain ⟨a, cap, rfl, hr⟩ := ht
  obtain ⟨a', cap', rfl, hr'⟩ := hi
  have HR := hide hr; have HR' := hide hr'; clear hr hr'
  go_enter Try.func13, Try.ntmps13
  go_wp2
  go_loopw [5] (fun jv wr => ∃ j : Nat, j ≤ ms.length ∧ jv = .int .i64 j ∧ Hid (hold (ms.take j) ts = true) ∧ Hid (Below w.heap.size w wr)) (fun jv _ => ms.length - (intOf jv).toNat)
  case atStart => exact ⟨0, by omega, rfl, rfl, Below.refl _ _⟩
  case round =>
    obtain ⟨j, hj, rfl, HH, HB⟩ := hrel
    by_cases hlt : j < ms.length
    · obtain ⟨b', o', hao', A⟩ := HR'.out j ms[j] (by simp [hlt])
      subst hao'
      obtain ⟨want, hwant⟩ : ∃ m, ms[j] = m := ⟨_, rfl⟩
      rw [hwant] at A
      have HWA := hide hwant; clear hwant
      have A' := A.keep (Keeps.of HB.out)
      clear A
      obtain ⟨a0, a1, a2, a3, a4⟩ := A'
      have hb2 := lt_of_cell a0
      go_wp2_with (go_at_call 20; refine (last_any _ ts _ _ (HT0.out.keep (Keeps.of HB.out)) hl).mono ?_; rintro en w' ⟨rfl, rfl⟩)
      rcases last_all ts want.id with ⟨e1, e2, _⟩ | ⟨k, m, e0, e1, e2, e3, e4, _⟩
      · rw [e1]
        have HNO := hide (hold_no hlt (by rw [HWA.out]; exact okM_none e2))
        clear e1 e2
        go_quiet (fail)
        go_wp2
        go_ret
        exact ⟨ret_bool HNO.out.symm, below_drewN HB.out _⟩
      · rw [e1]
        obtain ⟨b, o, hao, A⟩ := HR.out k m e2
        subst hao
        have t1 := (Keeps.of HB.out).cell A.c1
        have hb1 := lt_of_cell t1
        have i1 : (k : Int) < (ts.length : Int) := by omega
        have i2 : (j : Int) < (ms.length : Int) := by omega
        have cb : decide ((k : Int) < 0) = false := decide_eq_false (by omega)
        have HOK := hide (okM_some e4)
        clear e0 e1 e2 e3 e4 A
        go_quiet (fail)
        go_wp2
        · have hcmp : (m.ty.toList == want.ty.toList) = false := by simpa using ‹(!m.ty.toList == want.ty.toList) = true›
          have HNO := hide (hold_no hlt (by rw [HWA.out, HOK.out]; exact hcmp))
          go_ret
          exact ⟨ret_bool HNO.out.symm, below_drewN HB.out _⟩
        · have hcmp : (m.ty.toList == want.ty.toList) = true := by simpa using ‹(!m.ty.toList == want.ty.toList) = false›
          go_roundw
          case rel => exact ⟨j + 1, by omega, by go_num, hide (hold_step hlt HH.out (by rw [HWA.out, HOK.out]; exact hcmp)), hide (below_drewN HB.out _)⟩
          case measure => simp [intOf]; omega
    · obtain rfl : j = ms.length := by omega
      rw [List.take_length] at HH
      go_wp2
      go_ret
      exact ⟨ret_bool HH.out.symm, HB.out⟩

theorem len_map {w : World} {r : Nat} {l : Ents} (h : MapIs w r l) : (Builtin.len_ #[45] 3 #[.map (some r)]).run Try.prog w = .ok (.int .i64 l.length) w := by
  obtain ⟨es, clock, hb, hr⟩ := h
  have hs : es.size = l.length := by
    have := congrArg List.length hr
    simpa using this
  rw [← hs]
  simp [Builtin.len_, run_underlying Try.underlying45, MapKept.run_getObj_map hb, Result.andThen, goInt]
theorem allocs3 {B : Nat} {w w' : World} {c0 c d : Array Value} {R S T : TypeId} {n : Nat} (h : Below B w w') (hB : B ≤ w'.heap.size) : Below B w (((((w'.alloc (.cells c0 R)).drewN n).alloc (.cells c S)).alloc (.cells d T))) :=
  ((below_drewN (h.alloc hB _) n).alloc (Nat.le_trans hB (World.le_alloc _ _)) _).alloc (Nat.le_trans hB (Nat.le_trans (World.le_alloc w' (.cells c0 R)) (World.le_alloc ((w'.alloc (.cells c0 R)).drewN n) _))) _

set_option maxHeartbeats 1000000 in
set_option maxRecDepth 100000 in
theorem sets_any (r : Nat) (vt : Value) (ts : List Mt) (w : World) (hm : MapIs w r (mkE ts)) (ht : MsAt w vt ts) (hl : ts.length ≤ 140737488355328) :
    Calls Try.prog 14 #[.map (some r), vt] w fun en w' => en = .returned (.bool true) ∧ Below w.heap.size w w' := by
  have HT0 := hide ht
  have HM0 := hide hm
  obtain ⟨a, cap, rfl, hr⟩ := ht
  have HR := hide hr; clear hr hm
  go_enter Try.func14, Try.ntmps14
  go_wp2
  go_loopw [5, 6] (fun dv jv wr => ∃ j d : Nat, j ≤ ts.length ∧ jv = .int .i64 j ∧ dv = .int .i64 d ∧ Hid (d ≤ j) ∧ Hid (d + ids ((ts.drop j).map (·.id)) = ids (ts.map (·.id))) ∧ Hid (Below w.heap.size w wr)) (fun _ jv _ => ts.length - (intOf jv).toNat)
  case atStart => exact ⟨0, 0, by omega, rfl, rfl, Nat.le_refl _, hide (by simp), Below.refl _ _⟩
  case round =>
    obtain ⟨j, dd, hj, rfl, rfl, HD, HI, HB⟩ := hrel
    by_cases hlt : j < ts.length
    · obtain ⟨b, o, hao, A⟩ := HR.out j ts[j] (by simp [hlt])
      subst hao
      have hids := @ids_last ts j hlt
      have hidn := @ids_not ts j hlt
      obtain ⟨m, hmm⟩ : ∃ m, ts[j] = m := ⟨_, rfl⟩
      rw [hmm] at A hids hidn
      clear hmm
      have A' := A.keep (Keeps.of HB.out)
      clear A
      obtain ⟨a0, a1, a2, a3, a4⟩ := A'
      have hb2 := lt_of_cell a0
      have hlook := run_look Try.underlying45 Try.underlying9 zero38 (HM0.out.below HB.out) m.id
      have HIDS := hide hids
      have HIDN := hide hidn
      clear hids hidn
      have hd := HD.out
      by_cases hlast : lastTo ts m.id ts.length = (j : Int)
      · rw [(HIDS.out hlast).2] at hlook
        simp only [got, vals] at hlook
        go_wp2_with (go_at_call 20; refine (last_any _ ts _ _ (HT0.out.keep (Keeps.of HB.out)) hl).mono ?_; rintro en w' ⟨rfl, rfl⟩)
        go_region_with (go_at_call 11; refine (method_any _ _).mono ?_; rintro en w' ⟨rfl, c, d, rfl⟩)
        all_goals
          go_wp2
          go_roundw
          case rel => exact ⟨j + 1, dd + 1, by omega, by go_num, by go_num, hide (by omega), hide (by have h1 := (HIDS.out hlast).1; have h2 := HI.out; omega), hide (allocs3 HB.out HB.out.size)⟩
          case measure => simp [intOf]; omega
      · have hneq : decide (lastTo ts m.id ts.length = (j : Int)) = false := decide_eq_false hlast
        clear hlook
        go_wp2_with (go_at_call 20; refine (last_any _ ts _ _ (HT0.out.keep (Keeps.of HB.out)) hl).mono ?_; rintro en w' ⟨rfl, rfl⟩)
        go_roundw
        case rel => exact ⟨j + 1, dd, by omega, by go_num, rfl, hide (by omega), hide (by rw [← HIDN.out hlast]; exact HI.out), HB⟩
        case measure => simp [intOf]; omega
    · obtain rfl : j = ts.length := by omega
      have hlen := len_map (HM0.out.below HB.out)
      have hids : dd = (mkE ts).length := by
        have h1 := HI.out
        rw [List.drop_length] at h1
        rw [len_mkE]
        exact h1
      rw [← hids] at hlen
      clear hids
      go_wp2
      go_ret
      exact ⟨rfl, HB.out⟩
end Go.Proofs.Qxb6604184a
