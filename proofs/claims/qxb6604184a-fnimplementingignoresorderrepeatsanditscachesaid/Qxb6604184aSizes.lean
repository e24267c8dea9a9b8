import Derived.Test.Qxb6604184aBase
namespace Go.Proofs.Qxb6604184a
open Go.RowKit
set_option linter.unusedVariables false

set_option maxRecDepth 100000 in
set_option maxHeartbeats 2000000 in
theorem impl_any (vt vi : Value) (tss : List (List Mt)) (ms : List Mt) (w : World) (ht : TsAt w vt tss) (hi : MsAt w vi ms) (hl : ms.length ≤ 140737488355328) (htl : tss.length ≤ 140737488355328) (htt : ∀ t, t ∈ tss → t.length ≤ 140737488355328) :
    Calls Try.prog 5 #[vt, vi] w (SomeInt w) := by
  obtain ⟨a, cap, rfl, hr⟩ := ht
  have HR := hide hr; clear hr
  have HI := hide hi; clear hi
  have HT := hide htt; clear htt
  go_enter Try.func5, Try.ntmps5
  go_wp2_with (first | (go_at_call 17; refine (add_any _ _ _).mono ?_; rintro en w' ⟨r, rfl, rfl⟩) | (go_at_call 16; refine (meths_any _ _ _ _ (unhide HI) hl).mono ?_; rintro en w' ⟨r, rfl, rfl⟩))
  go_loop [5, 6] (fun nv ev => ∃ (e : Nat) (n : Int), e ≤ tss.length ∧ ev = .int .i64 e ∧ nv = .int .i64 n) (fun _ ev => tss.length - (intOf ev).toNat)
  case atStart => exact ⟨0, _, by omega, rfl, rfl⟩
  case round =>
    obtain ⟨e, n, he, rfl, rfl⟩ := hrel
    by_cases hlt : e < tss.length
    · obtain ⟨b, o, vi', rfl, hc, hm⟩ := HR.out e tss[e] (by simp [hlt])
      have HM := hide hm; clear hm
      have hl2 := HT.out tss[e] (by simp)
      by_cases hn : n ≤ 1048576
      · obtain ⟨a', cap', hvi, _⟩ := id HM.out
        subst hvi
        go_wp2_with (go_at_call 16; refine (meths_any _ _ _ _ (unhide HM) hl2).mono ?_; rintro en w' ⟨r, rfl, rfl⟩)
        go_round
        case rel => exact ⟨e + 1, _, by omega, by go_num, rfl⟩
        case measure => simp [intOf]; omega
      · go_wp2
        go_ret
        exact ⟨_, rfl, rfl⟩
    · go_wp2
      go_ret
      exact ⟨_, rfl, rfl⟩

/-- The bytes of the IDs and types. -/
def sumI : List Mt → Nat
  | [] => 0
  | m :: t => m.id.size + m.ty.size + sumI t
theorem sumI_snoc (l : List Mt) (m : Mt) : sumI (l ++ [m]) = sumI l + (m.id.size + m.ty.size) := by
  induction l with
  | nil => simp [sumI]
  | cons x t ih => simp [sumI, ih]; omega
theorem sumI_take {l : List Mt} {k : Nat} (h : k < l.length) : sumI (l.take (k + 1)) = sumI (l.take k) + (l[k].id.size + l[k].ty.size) := by
  rw [List.take_succ_eq_append_getElem h, sumI_snoc]
end Go.Proofs.Qxb6604184a
