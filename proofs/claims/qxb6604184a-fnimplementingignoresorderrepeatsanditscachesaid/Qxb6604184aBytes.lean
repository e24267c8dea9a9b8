import Derived.Test.Qxb6604184aSets
namespace Go.Proofs.Qxb6604184a
open Go.RowKit
set_option linter.unusedVariables false
set_option linter.unusedSimpArgs false

theorem all_take {tss : List (List Mt)} {e : Nat} {L : List Mt} (he : e < tss.length) (hL : tss[e] = L) (h : ∀ t, t ∈ tss.take e → t.length ≤ 1048576) (hl : L.length ≤ 1048576) : ∀ t, t ∈ tss.take (e + 1) → t.length ≤ 1048576 := by
  rw [List.take_succ_eq_append_getElem he, hL]
  intro t ht
  rcases List.mem_append.1 ht with q | q
  · exact h t q
  · rw [List.mem_singleton.1 q]; exact hl

/-- What zzBytes hands back. -/
def AllPost (tss : List (List Mt)) (ms : List Mt) (w : World) (en : Ending) (w' : World) : Prop :=
  ∃ r : Bool, en = .returned (.bool r) ∧ (r = true → tss.length ≤ 1048576 ∧ ms.length ≤ 1048576 ∧ sumI ms ≤ 1048576 ∧ ∀ t, t ∈ tss → t.length ≤ 1048576) ∧ w = w'
theorem all_no (tss : List (List Mt)) (ms : List Mt) (w : World) : AllPost tss ms w (.returned (.bool false)) w := ⟨false, rfl, (fun e => by cases e), rfl⟩

set_option maxRecDepth 100000 in
set_option maxHeartbeats 8000000 in
theorem all_any (vt vi : Value) (tss : List (List Mt)) (ms : List Mt) (w : World) (ht : TsAt w vt tss) (hi : MsAt w vi ms) (hl : ms.length ≤ 9223372036854775807) (htl : tss.length ≤ 9223372036854775807) (htt : ∀ t, t ∈ tss → t.length ≤ 9223372036854775807) :
    Calls Try.prog 4 #[vt, vi] w (AllPost tss ms w) := by
  obtain ⟨a, cap, rfl, hr⟩ := ht
  have HR := hide hr; clear hr
  obtain ⟨ai, capi, rfl, hri⟩ := hi
  have HI := hide hri; clear hri
  have HT := hide htt; clear htt
  by_cases hb : tss.length ≤ 1048576
  · go_enter Try.func4, Try.ntmps4
    go_wp2
    go_loop [5, 6, 7] (fun zv ev jv => ∃ (e : Nat) (z : Int), e ≤ tss.length ∧ 0 ≤ z ∧ z ≤ 1048576 ∧ ev = .int .i64 e ∧ zv = .int .i64 z ∧ Hid (∀ t, t ∈ tss.take e → t.length ≤ 1048576)) (fun _ ev _ => tss.length - (intOf ev).toNat)
    case atStart => exact ⟨0, _, by omega, by omega, by omega, rfl, rfl, fun t ht => by simp at ht⟩
    case round =>
      obtain ⟨e, z, he, z0, z1, rfl, rfl, HA⟩ := hrel
      by_cases hlt : e < tss.length
      · obtain ⟨b, o, vi', rfl, hc, hm⟩ := HR.out e tss[e] (by simp [hlt])
        obtain ⟨a', cap', rfl, hrm⟩ := hm
        have HM := hide hrm; clear hrm
        have hl2 := HT.out tss[e] (by simp)
        obtain ⟨L, hL⟩ : ∃ L, tss[e] = L := ⟨_, rfl⟩
        rw [hL] at hc HM hl2
        have HLe := hide hL
        clear hL
        go_wp2
        · go_ret
          exact all_no _ _ _
        · go_ret
          exact all_no _ _ _
        · have hLl : L.length ≤ 1048576 := by omega
          go_loop [5, 7] (fun zv jv => ∃ (j : Nat) (z : Int), j ≤ L.length ∧ 0 ≤ z ∧ z ≤ 1048576 ∧ jv = .int .i64 j ∧ zv = .int .i64 z) (fun _ jv => L.length - (intOf jv).toNat)
          case atStart => exact ⟨0, _, by omega, by omega, by omega, rfl, rfl⟩
          case round =>
            obtain ⟨j, y, hj, y0, y1, rfl, rfl⟩ := hrel
            by_cases hjl : j < L.length
            · obtain ⟨b', o', rfl, A⟩ := HM.out j L[j] (by simp [hjl])
              obtain ⟨m, hm⟩ : ∃ m, L[j] = m := ⟨_, rfl⟩
              rw [hm] at A
              obtain ⟨a0, a1, a2, a3, a4⟩ := A
              clear hm
              go_wp2
              all_goals first
                | (go_ret; exact all_no _ _ _)
                | (go_round
                   case rel => exact ⟨j + 1, _, by omega, by omega, by omega, by go_num, rfl⟩
                   case measure => simp [intOf]; omega)
            · go_wp2
              go_round
              case rel => exact ⟨e + 1, _, by omega, y0, y1, by go_num, rfl, hide (all_take hlt HLe.out HA.out hLl)⟩
              case measure => simp [intOf]; omega
      · obtain rfl : e = tss.length := by omega
        rw [List.take_length] at HA
        go_wp2
        · go_ret
          exact all_no _ _ _
        · go_ret
          exact all_no _ _ _
        · go_loop [5, 8] (fun zv jv => ∃ (j : Nat) (z : Int), j ≤ ms.length ∧ 0 ≤ z ∧ z ≤ 1048576 ∧ jv = .int .i64 j ∧ zv = .int .i64 z ∧ Hid ((sumI (ms.take j) : Int) ≤ z)) (fun _ jv => ms.length - (intOf jv).toNat)
          case atStart => exact ⟨0, _, by omega, by omega, by omega, rfl, rfl, by show _ ≤ _; simp [sumI]; omega⟩
          case round =>
            obtain ⟨j, y, hj, y0, y1, rfl, rfl, HS⟩ := hrel
            by_cases hjl : j < ms.length
            · obtain ⟨b', o', rfl, A⟩ := HI.out j ms[j] (by simp [hjl])
              have hs := sumI_take hjl
              obtain ⟨m, hm⟩ : ∃ m, ms[j] = m := ⟨_, rfl⟩
              rw [hm] at A hs
              obtain ⟨a0, a1, a2, a3, a4⟩ := A
              have HS2 := hide hs
              clear hm hs
              go_wp2
              all_goals first
                | (go_ret; exact all_no _ _ _)
                | (go_round
                   case rel => exact ⟨j + 1, _, by omega, by omega, by omega, by go_num, rfl, by show _ ≤ _; have := HS.out; rw [HS2.out]; omega⟩
                   case measure => simp [intOf]; omega)
            · obtain rfl : j = ms.length := by omega
              have hs := HS.out
              rw [List.take_length] at hs
              have HS3 := hide hs; clear hs
              have hml : ms.length ≤ 1048576 := by omega
              go_wp2
              go_ret
              exact ⟨true, rfl, fun _ => ⟨hb, hml, by have := HS3.out; omega, HA.out⟩, rfl⟩
  · go_enter Try.func4, Try.ntmps4
    go_wp2
    go_ret
    exact all_no _ _ _
end Go.Proofs.Qxb6604184a
