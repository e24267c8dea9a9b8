import Derived.Test.Qxb6604184aHold
namespace Go.Proofs.Qxb6604184a
open Go.RowKit
set_option linter.unusedVariables false
set_option linter.unusedSimpArgs false

/-- What 'implementing' leaves. -/
def ImplPost (im : Nat) (ms : List Mt) (tss : List (List Mt)) (l : Ents) (w : World) (en : Ending) (w' : World) : Prop :=
  ∃ v, en = .returned v ∧ Most im w w' ∧ ((find l ⟨(keyL ms).toArray⟩ = some v ∧ MapIs w' im l) ∨
    (find l ⟨(keyL ms).toArray⟩ = none ∧ TmAt (· ≠ im) w' v (tss.filter (hold ms)) ∧ MapIs w' im (upd l ⟨(keyL ms).toArray⟩ v)))

theorem info49 : ∃ i, Try.prog.info? 49 = some i ∧ i.zero = some (.agg #[.map none, .slice none 0 0]) ∧ i.size = 2 ∧ i.bytes = 32 := by
  have h : (Try.prog.info? 49).map (fun i => (i.zero, i.size, i.bytes)) = some (some (.agg #[.map none, .slice none 0 0]), 2, 32) := by kernel_rfl
  obtain ⟨i, hi, hz⟩ := Option.map_eq_some_iff.1 h
  simp only [Prod.mk.injEq] at hz
  exact ⟨i, hi, hz.1, hz.2.1, hz.2.2⟩

theorem allocs2 {B : Nat} {w w' : World} {c d : Array Value} {S T : TypeId} (h : Below B w w') (hB : B ≤ w'.heap.size := by omega) : Below B w ((w'.alloc (.cells c S)).alloc (.cells d T)) :=
  (h.alloc hB _).alloc (Nat.le_trans hB (World.le_alloc _ _)) _

theorem news2 (w : World) (x y : Value) : ∀ (j : Nat) u, [x, y][j]? = some u → (w.alloc (.cells #[x, y] 49)).cell? ((⟨w.heap.size, 0, none⟩ : Addr).add j) = some u := fun j u hu => by
  have hadd : (⟨w.heap.size, 0, none⟩ : Addr).add j = ⟨w.heap.size, j, none⟩ := by unfold Addr.add; split <;> simp_all
  rw [hadd, (RowIs.new w 49 #[x, y]).cell j]
  simpa using hu
theorem one2 (r : Nat) : ∀ u ∈ [Value.map (some r), .slice none 0 0], u.oneCell' = true := fun u hu => by
  simp at hu
  rcases hu with rfl | rfl <;> rfl

set_option maxHeartbeats 1000000 in
set_option maxRecDepth 100000 in
theorem impl_calls (gb im : Nat) (vt vi : Value) (w : World) (ms : List Mt) (tss : List (List Mt)) (l : Ents) (hl : ms.length ≤ 1000000000) (hs : sumI ms ≤ 1000000000) (hvi : MsAt w vi ms) (htl : tss.length ≤ 1000000000)
    (g3 : w.cell? ⟨gb, 3, none⟩ = some vt) (g4 : w.cell? ⟨gb, 4, none⟩ = some (.map (some im))) (ht : TmAt (· ≠ im) w vt tss) (hmap : MapIs w im l) :
    Calls Try.prog 19 #[.pointer (some ⟨gb, 0, none⟩), vi] w (ImplPost im ms tss l w) := by
  obtain ⟨i49, hi, hz0, hz1, hz2⟩ := info49
  go_enter Try.func19, Try.ntmps19
  go_wp2_with fail
  refine (key_any _ _ _ hvi hl hs).mono ?_
  rintro e w1 ⟨rfl, hb1⟩
  have g3' := (Keeps.of hb1).cell g3
  have g4' := (Keeps.of hb1).cell g4
  have hm1 := hmap.below hb1
  have HT := hide (ht.most (Most.of hb1))
  have HV := hide (hvi.keep (Keeps.of hb1))
  have HB := hide hb1
  have hlook := run_look Try.underlying52 Try.underlying9 zero30 hm1 ⟨(keyL ms).toArray⟩
  have him := hmap.lt
  have hsz := hb1.size
  have HM1 := hide hm1
  clear g3 g4 ht hvi hmap hb1 hm1
  cases hf : find l ⟨(keyL ms).toArray⟩ with
  | some v0 =>
    rw [hf] at hlook
    simp only [got] at hlook
    have HF := hide hf
    clear hf
    generalize hkey : (⟨(keyL ms).toArray⟩ : ByteArray) = key at hlook ⊢
    have HK := hide hkey; clear hkey
    go_wp2
    go_ret
    exact ⟨v0, rfl, Most.of HB.out, .inl ⟨HF.out, HM1.out⟩⟩
  | none =>
    rw [hf] at hlook
    simp only [got] at hlook
    have HF := hide hf
    clear hf
    generalize hkey : (⟨(keyL ms).toArray⟩ : ByteArray) = key at hlook ⊢
    have HK := hide hkey; clear hkey
    obtain ⟨a, cap, hvt, hr⟩ := HT.out
    subst hvt
    have HR := hide hr; clear hr
    obtain ⟨a', cap', hvi', hri⟩ := HV.out
    subst hvi'
    have HRI := hide hri; clear hri
    go_wp2
    go_loopw [8, 34] (fun sv ev wr => ∃ (e n : Nat) (xs : List Value), e ≤ tss.length ∧ ev = .int .i64 e ∧ Hid (wr.ownsRow w1.heap.size 49 2 sv n xs) ∧ Hid (Below w1.heap.size w1 wr) ∧ Hid (n = ((tss.take e).filter (hold ms)).length) ∧ Hid (SetsIn im w1 xs ((tss.take e).filter (hold ms)))) (fun _ ev _ => tss.length - (intOf ev).toNat)
    case atStart => exact ⟨0, 0, [], by omega, rfl, World.ownsRow_nil _ _ _ _, Below.refl _ _, rfl, fun e ts he => by simp at he⟩
    case round =>
      obtain ⟨e, n, xs, he, rfl, HO, HB2, HN, HS⟩ := hrel
      by_cases hlt : e < tss.length
      · obtain ⟨b, o, r, hao, hbi, hc0, hc1, hri, hmr⟩ := HR.out e tss[e] (by simp [hlt])
        subst hao
        obtain ⟨ts, hts⟩ : ∃ ts, tss[e] = ts := ⟨_, rfl⟩
        rw [hts] at hmr
        have HTS := hide hts; clear hts
        have hc0' := (Keeps.of HB2.out).cell hc0
        have hc1' := (Keeps.of HB2.out).cell hc1
        have HMR := hide hmr
        have HMR2 := hide (hmr.below HB2.out)
        have hbl := lt_of_cell hc0'
        clear hc0 hc1 hmr
        obtain ⟨wo, hwo⟩ : ∃ wo : World, wo = wr := ⟨_, rfl⟩
        subst hwo
        go_wp2
        generalize hwq : wo.alloc (Obj.cells #[Value.map (some r), Value.slice none 0 0] 49) = wq
        have q0 : wq.cell? ⟨wo.heap.size, 0, none⟩ = some (.map (some r)) := by rw [← hwq]; exact (RowIs.new wo 49 _).cell 0
        have q1 : wq.cell? ⟨wo.heap.size, 1, none⟩ = some (.slice none 0 0) := by rw [← hwq]; exact (RowIs.new wo 49 _).cell 1
        have hbq : Below wo.heap.size wo wq := by rw [← hwq]; exact (Below.refl _ _).alloc (Nat.le_refl _) _
        have HBQ := hide hbq
        have hsq := hbq.size
        have HMQ := hide (HMR2.out.below hbq)
        have HWQ := hide hwq
        clear hwq hbq
        go_loopw [11, 40] (fun hv jv w2 => ∃ (j : Nat), j ≤ ms.length ∧ jv = .int .i64 j ∧ hv = .bool true ∧ Hid (hold (ms.take j) ts = true) ∧ Hid (Below wq.heap.size wq w2)) (fun _ jv _ => ms.length - (intOf jv).toNat)
        case atStart => exact ⟨0, by omega, rfl, rfl, rfl, Below.refl _ _⟩
        case round =>
          obtain ⟨j, hj, rfl, rfl, HH, HB3⟩ := hrel
          by_cases hjl : j < ms.length
          · obtain ⟨b', o', hao', A⟩ := HRI.out j ms[j] (by simp [hjl])
            subst hao'
            obtain ⟨want, hwant⟩ : ∃ m, ms[j] = m := ⟨_, rfl⟩
            rw [hwant] at A
            have HWA := hide hwant; clear hwant
            have A' := A.keep (Keeps.of (HB2.out.trans ((HBQ.out.mono (by have := HB2.out.size; omega)).trans (HB3.out.mono (by have := HB2.out.size; omega)))))
            clear A
            obtain ⟨a0, a1, a2, a3, a4⟩ := A'
            have hb2 := lt_of_cell a0
            have r0 := (Keeps.of HB3.out).cell q0
            have hr0 := lt_of_cell r0
            have hlook2 := fun c : Array Value => run_look Try.underlying45 Try.underlying9 zero38 ((HMQ.out.below HB3.out).below ((Below.refl _ _).alloc (Nat.le_refl _) (.cells c 38))) want.id
            simp only [find_mkE] at hlook2
            cases hlk : look ts want.id with
            | none =>
              have HLK := hide (okM_none hlk)
              rw [hlk] at hlook2
              simp only [got, Option.map_none] at hlook2
              clear hlk
              have HNO := hide (hold_no hjl (by rw [HWA.out]; exact HLK.out))
              go_wp2
              go_roundw
              case rel => exact ⟨e + 1, n, xs, by omega, by go_num, hide (own_below HO.out (allocs2 (HBQ.out.trans (HB3.out.mono hsq)) (Nat.le_trans hsq HB3.out.size))), hide (HB2.out.trans ((allocs2 (HBQ.out.trans (HB3.out.mono hsq)) (Nat.le_trans hsq HB3.out.size)).mono HB2.out.size)), hide (by rw [filter_no hlt HTS.out HNO.out]; exact HN.out), hide (by rw [filter_no hlt HTS.out HNO.out]; exact HS.out)⟩
              case measure => simp [intOf]; omega
            | some m =>
              have HLK := hide (okM_some hlk)
              rw [hlk] at hlook2
              simp only [got, Option.map_some, vals] at hlook2
              clear hlk
              go_wp2
              · have hcmp : (m.ty.toList == want.ty.toList) = false := by simpa using ‹(!m.ty.toList == want.ty.toList) = true›
                have HNO := hide (hold_no hjl (by rw [HWA.out, HLK.out]; exact hcmp))
                go_roundw
                case rel => exact ⟨e + 1, n, xs, by omega, by go_num, hide (own_below HO.out (allocs2 (HBQ.out.trans (HB3.out.mono hsq)) (Nat.le_trans hsq HB3.out.size))), hide (HB2.out.trans ((allocs2 (HBQ.out.trans (HB3.out.mono hsq)) (Nat.le_trans hsq HB3.out.size)).mono HB2.out.size)), hide (by rw [filter_no hlt HTS.out HNO.out]; exact HN.out), hide (by rw [filter_no hlt HTS.out HNO.out]; exact HS.out)⟩
                case measure => simp [intOf]; omega
              · have hcmp : (m.ty.toList == want.ty.toList) = true := by simpa using ‹(!m.ty.toList == want.ty.toList) = false›
                go_roundw
                case rel => exact ⟨j + 1, by omega, by go_num, rfl, hide (hold_step hjl HH.out (by rw [HWA.out, HLK.out]; exact hcmp)), hide (allocs2 HB3.out HB3.out.size)⟩
                case measure => simp [intOf]; omega
          · obtain rfl : j = ms.length := by omega
            rw [List.take_length] at HH
            have r0 := (Keeps.of HB3.out).cell q0
            have r1 := (Keeps.of HB3.out).cell q1
            have hr0 := lt_of_cell r0
            have hown := own_below HO.out (HBQ.out.trans (HB3.out.mono hsq))
            have hs1 := HB2.out.size
            have hs3 := HB3.out.size
            have hn := HN.out
            have hnl : n ≤ 1000000000 := by
              have h1 := List.length_filter_le (hold ms) (tss.take e)
              have h2 := List.length_take_le e tss
              omega
            clear hn
            have hownA := hown.alloc (.cells #[.map (some r), .slice none 0 0] 49)
            have hnews := news2 wr (.map (some r)) (.slice none 0 0)
            have hbA : Below wo.heap.size wo (wr.alloc (.cells #[.map (some r), .slice none 0 0] 49)) := (HBQ.out.trans (HB3.out.mono hsq)).alloc (by omega) _
            have hsA := World.le_alloc wr (.cells #[.map (some r), .slice none 0 0] 49)
            have HOWN := hide hown
            have HBA := hide hbA
            clear hown hbA
            go_wp2_with (at_builtin; refine wpList_append_own (wr.alloc (.cells #[.map (some r), .slice none 0 0] 49)) rfl (.tmp 63) (.tmp 65) 30 rfl w1.heap.size 49 i49 _ 2 32 Try.underlying30 hi hz0 hz1 hz2 rfl (by decide) u8 n xs rfl hownA ⟨wr.heap.size, 0, none⟩ 1 1 [.map (some r), .slice none 0 0] rfl rfl hnews (one2 r) ?c6 ?cb ?cs ?_)
            case c6 => unfold maxLen; omega
            case cb => omega
            case cs => omega
            intro v' w2 hown' hgrow _
            clear hownA hnews
            have HO2 := hide hown'
            have HG2 := hide hgrow
            clear hown' hgrow
            go_wp2
            go_roundw
            case rel => exact ⟨e + 1, n + 1, _, by omega, by go_num, HO2, hide ((HB2.out.trans (HBA.out.mono hs1)).grown HG2.out (by omega) (fun k hk => (HO.out.lt k hk).1)), hide (by rw [filter_yes hlt HTS.out HH.out, List.length_append, ← HN.out]; rfl), hide (by rw [filter_yes hlt HTS.out HH.out]; exact HS.out.snoc (by rw [← HN.out]; exact HO.out.1) hri HMR.out)⟩
            case measure => simp [intOf]; omega
      · obtain rfl : e = tss.length := by omega
        have hput := run_put Try.underlying52 Try.underlying9 (HM1.out.below HB2.out) key u8
        have g4'' := (Keeps.of HB2.out).cell g4'
        go_wp2
        go_ret
        rw [List.take_length] at HN HS
        obtain ⟨p1, p2⟩ := put_is (HM1.out.below HB2.out) key u8
        refine ⟨u8, rfl, ((Most.of HB.out).trans (Most.of HB2.out)).trans (Most.put (HM1.out.below HB2.out) key u8), .inr ⟨HF.out, (HS.out.tm HN.out HO.out (by omega) (Most.of HB2.out)).most (Most.put (HM1.out.below HB2.out) key u8), ?_⟩⟩
        rw [HK.out]
        exact p1
end Go.Proofs.Qxb6604184a
