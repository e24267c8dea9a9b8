import Derived.Test.Qxb6604184aAsk
import Derived.Test.Qxb6604184aBytes
import Derived.Deep.CutRange
namespace Go.Proofs.Qxb6604184a
open Go.RowKit
set_option linter.unusedVariables false
set_option linter.unusedSimpArgs false

theorem news5b (w : World) (x0 x1 x2 x3 x4 : Value) (T : TypeId) {g : Nat} (hg : w.heap.size = g) : ∀ (j : Nat) u, [x0, x1, x2, x3, x4][j]? = some u → (w.alloc (.cells #[x0, x1, x2, x3, x4] T)).cell? ((⟨g, 0, none⟩ : Addr).add j) = some u := by
  subst hg; exact news5 w x0 x1 x2 x3 x4 T

set_option maxHeartbeats 4000000 in
set_option maxRecDepth 100000 in
theorem law_any (vt vi : Value) (tss : List (List Mt)) (ms : List Mt) (w : World) (ht : TsAt w vt tss) (hi : MsAt w vi ms) (hl : ms.length ≤ 9223372036854775807) (htl : tss.length ≤ 9223372036854775807) (htt : ∀ t, t ∈ tss → t.length ≤ 9223372036854775807) :
    Calls Try.prog 3 #[vt, vi] w fun en w' => en = .returned (.bool true) ∧ Below w.heap.size w w' := by
  have HTT := hide htt
  have HT := hide ht
  have HI := hide hi
  clear ht hi htt
  go_enter Try.func3, Try.ntmps3
  go_wp2_with fail
  refine (all_any vt vi tss ms w HT.out HI.out hl htl HTT.out).mono ?_
  rintro en w' ⟨r, rfl, hr, rfl⟩
  cases r with
  | false =>
    go_wp2
    go_ret
    exact ⟨rfl, Below.refl _ _⟩
  | true =>
    obtain ⟨b1, b2, b3, b4⟩ := hr rfl
    have HB4 := hide b4
    clear b4 hr hl htl HTT
    go_wp2_with fail
    refine (impl_any vt vi tss ms w HT.out HI.out (by omega) (by omega) (fun t h => by have := HB4.out t h; omega)).mono ?_
    rintro en w' ⟨r, rfl, rfl⟩
    by_cases hsz : 263168 < r
    · go_wp2
      go_ret
      exact ⟨rfl, Below.refl _ _⟩
    · have hszb : decide (263168 < r) = false := decide_eq_false hsz
      go_wp2_with fail
      refine (types_any vt tss w HT.out (by omega) (fun t h => by have := HB4.out t h; omega)).mono ?_
      rintro en w1 ⟨at1, ct1, rfl, hts1, hbe1⟩
      have HT1 := hide hts1.ts
      have HB1 := hide hbe1
      have HI1 := hide (HI.out.keep (Keeps.of hbe1))
      clear hts1 hbe1
      go_wp2_with fail
      refine (clone_any vi ms w1 HI1.out (by omega)).mono ?_
      rintro en w2 ⟨ai2, ci2, rfl, hms2, hbe2⟩
      have HI2 := hide hms2.ms
      have HB2 := hide (HB1.out.trans (hbe2.mono HB1.out.size))
      have HT2 := hide (HT1.out.keep (Keeps.of hbe2))
      clear hms2 hbe2 HI1 HT1 HB1
      go_wp2_with fail
      refine (build_any _ tss w2 HT2.out (by omega) (fun t h => by have := HB4.out t h; omega)).mono ?_
      rintro en w3 ⟨at3, ct3, rfl, htm3, hbe3⟩
      go_wp2_with fail
      refine (graph_any at3 tss.length ct3 w3).mono ?_
      rintro en w4 ⟨rfl, hw4⟩
      obtain ⟨hst4, hbe4⟩ := graph_st (F := tss.filter (hold ms)) rfl hw4 htm3
      have hbe24 := hbe3.trans (hbe4.mono hbe3.size)
      have HB4' := hide (HB2.out.trans (hbe24.mono HB2.out.size))
      have HI4 := hide (HI2.out.keep (Keeps.of hbe24))
      have HT4 := hide (HT2.out.keep (Keeps.of hbe24))
      have HS4 := hide hst4
      have him4 : w.heap.size ≤ w3.heap.size := Nat.le_trans HB2.out.size hbe3.size
      have HTM3 := hide htm3
      clear htm3 hst4 hbe24 hbe4 hbe3 hw4 HI2 HT2 HB2
      obtain ⟨im, him⟩ : ∃ im, w3.heap.size = im := ⟨_, rfl⟩
      rw [him] at HS4 him4
      go_wp2_with fail
      refine (methods_any (.slice ai2 ms.length ci2) ms w4 HI4.out (by omega)).mono ?_
      rintro en w5 ⟨ai5, ci5, rfl, hms5, hbe5⟩
      have HA5 := hide hms5.ms
      have HB5 := hide (HB4'.out.trans (hbe5.mono HB4'.out.size))
      have HI5 := hide (HI4.out.keep (Keeps.of hbe5))
      have HT5 := hide (HT4.out.keep (Keeps.of hbe5))
      have HS5 := hide (HS4.out.below hbe5)
      clear hms5 hbe5 HI4 HT4 HS4 HB4'
      obtain ⟨i38, z38, hi38, hz0, hz1, hz2, hz3⟩ := info38
      obtain ⟨w6, hmk, hown6, hgrow6⟩ := run_make_own (P := Try.prog) w5 w5.heap.size 32 38 i38 z38 5 Try.underlying32 hi38 hz0 hz1 .i64 .i64 (2 * ms.length) (by rw [hz2]; omega) (by unfold maxLen; omega) (Nat.le_refl _)
      have hc2 : ((2 * ms.length : Nat) : Int) = 2 * (ms.length : Int) := by omega
      rw [hc2] at hmk
      have HO6 := hide hown6
      have HB6 := hide (show Below w5.heap.size w5 w6 from ⟨hgrow6.os, hgrow6.tape, hgrow6.output, hgrow6.size, fun k hk => hgrow6.block k hk (by simp)⟩)
      clear hown6 hgrow6
      obtain ⟨ai, ci, hvi, hri⟩ := HI5.out
      cases hvi
      have HRI := hide hri; clear hri
      go_wp2
      go_loopw [7, 8] (fun sv jv wr => ∃ (k : Nat) (j : Int), k ≤ ms.length ∧ j = (ms.length : Int) - 1 - (k : Int) ∧ jv = .int .i64 j ∧ Hid (wr.ownsRow w5.heap.size 38 5 sv k (flat (ms.reverse.take k))) ∧ Hid (Below w5.heap.size w5 wr)) (fun _ jv _ => (intOf jv + 1).toNat)
      case atStart => exact ⟨0, _, by omega, by omega, rfl, HO6, HB6⟩
      case round =>
        obtain ⟨k, j, hk, hj, rfl, HO, HB⟩ := hrel
        by_cases hlt : k < ms.length
        · obtain ⟨jn, rfl⟩ : ∃ jn : Nat, j = (jn : Int) := ⟨j.toNat, by omega⟩
          have hjn : jn < ms.length := by omega
          have HTK := hide (rev_take (k := k) hjn (by omega))
          obtain ⟨b, o, hao, A⟩ := HRI.out jn ms[jn] (by simp [hjn])
          subst hao
          obtain ⟨m, hm⟩ : ∃ m, ms[jn] = m := ⟨_, rfl⟩
          rw [hm] at A HTK
          clear hm
          have A' := A.keep (Keeps.of HB.out)
          clear A
          obtain ⟨a0, a1, a2, a3, a4⟩ := A'
          have hbl := lt_of_cell a0
          have HJ := hide hj
          clear hj
          have hsB := HB.out.size
          go_wp2_with (first
            | (go_at_call 11; refine (method_any _ _).mono ?_; rintro en w' ⟨rfl, c, d, rfl⟩)
            | (at_builtin; refine wpList_append_own _ rfl (.tmp 43) (.tmp 49) 32 rfl w5.heap.size 38 i38 z38 5 72 Try.underlying32 hi38 hz0 hz1 hz2 hz3 (by decide) _ k (flat (ms.reverse.take k)) rfl ?own ⟨_, 0, none⟩ 1 1 [.string m.id, .string m.ty, .string m.pk, .string m.ky, .int .u32 m.em] rfl rfl ?news (one5 m) ?c6 ?cb ?cs ?_))
          case own => exact ((HO.out.alloc _).alloc _).alloc _
          case news => exact news5b _ _ _ _ _ _ _ (by simp)
          case c6 => unfold maxLen; omega
          case cb => omega
          case cs => simp; omega
          intro v' wA hown' hgrow _
          rw [← flat_snoc, ← HTK.out] at hown'
          have HO2 := hide hown'
          have HG2 := hide hgrow
          clear hown' hgrow
          go_wp2
          go_roundw
          case rel => exact ⟨k + 1, _, by omega, by have := HJ.out; omega, rfl, HO2, hide ((((HB.out.alloc hsB _).alloc (by simp; omega) _).alloc (by simp; omega) _).grown HG2.out (by simp; omega) (fun q hq => (HO.out.lt q hq).1))⟩
          case measure => simp [intOf]
        · obtain rfl : k = ms.length := by omega
          obtain rfl : j = -1 := by omega
          rw [show ms.reverse.take ms.length = ms.reverse from List.take_of_length_le (by simp)] at HO
          clear hj hlt hk
          go_wp2
          go_loopw [7, 9] (fun sv jv wr => ∃ (j : Nat), j ≤ ms.length ∧ jv = .int .i64 j ∧ Hid (wr.ownsRow w5.heap.size 38 5 sv (ms.length + j) (flat (ms.reverse ++ ms.take j))) ∧ Hid (Below w5.heap.size w5 wr)) (fun _ jv _ => ms.length - (intOf jv).toNat)
          case atStart => exact ⟨0, by omega, rfl, hide (by simpa using HO.out), HB⟩
          case round =>
            clear HO HB
            obtain ⟨j, hj, rfl, HO, HB⟩ := hrel
            by_cases hlt : j < ms.length
            · obtain ⟨b, o, hao, A⟩ := HRI.out j ms[j] (by simp [hlt])
              have htk := List.take_succ_eq_append_getElem hlt
              subst hao
              obtain ⟨m, hm⟩ : ∃ m, ms[j] = m := ⟨_, rfl⟩
              rw [hm] at A htk
              have HTK := hide htk
              clear hm htk
              have A' := A.keep (Keeps.of HB.out)
              clear A
              obtain ⟨a0, a1, a2, a3, a4⟩ := A'
              have hbl := lt_of_cell a0
              have hsB := HB.out.size
              go_wp2_with (first
                | (go_at_call 11; refine (method_any _ _).mono ?_; rintro en w' ⟨rfl, c, d, rfl⟩)
                | (at_builtin; refine wpList_append_own _ rfl (.tmp 57) (.tmp 63) 32 rfl w5.heap.size 38 i38 z38 5 72 Try.underlying32 hi38 hz0 hz1 hz2 hz3 (by decide) _ (ms.length + j) (flat (ms.reverse ++ ms.take j)) rfl ?own ⟨_, 0, none⟩ 1 1 [.string m.id, .string m.ty, .string m.pk, .string m.ky, .int .u32 m.em] rfl rfl ?news (one5 m) ?c6 ?cb ?cs ?_))
              case own => exact ((HO.out.alloc _).alloc _).alloc _
              case news => exact news5b _ _ _ _ _ _ _ (by simp)
              case c6 => unfold maxLen; omega
              case cb => omega
              case cs => simp; omega
              intro v' wA hown' hgrow _
              rw [← flat_snoc, List.append_assoc, ← HTK.out] at hown'
              have HO2 := hide hown'
              have HG2 := hide hgrow
              clear hown' hgrow
              go_wp2
              go_roundw
              case rel => exact ⟨j + 1, by omega, by go_num, HO2, hide ((((HB.out.alloc hsB _).alloc (by simp; omega) _).alloc (by simp; omega) _).grown HG2.out (by simp; omega) (fun q hq => (HO.out.lt q hq).1))⟩
              case measure => simp [intOf]; omega
            · obtain rfl : j = ms.length := by omega
              rw [List.take_length] at HO
              have HBB := hide (own_ms (by simp) HO.out)
              have HS7 := hide (HS5.out.below HB.out)
              have HA7 := hide (HA5.out.keep (Keeps.of HB.out))
              have HI7 := hide (HI5.out.keep (Keeps.of HB.out))
              have HT7 := hide (HT5.out.keep (Keeps.of HB.out))
              have HB7 := hide (HB5.out.trans (HB.out.mono HB5.out.size))
              have hs7 : w.heap.size ≤ wr.heap.size := HB7.out.size
              have hbb1 : (ms.reverse ++ ms).length ≤ 1000000000 := by simp; omega
              have hbb2 : sumI (ms.reverse ++ ms) ≤ 1000000000 := by rw [sumI_append, sumI_rev]; omega
              have HBL := hide hbb1
              have HBS := hide hbb2
              clear hbb1 hbb2 HO HB HS5 HA5 HI5 HT5 HB5 HRI hj hlt
              obtain ⟨F, hF⟩ : ∃ F, tss.filter (hold ms) = F := ⟨_, rfl⟩
              rw [hF] at HS7
              have HF := hide hF
              clear hF
              go_wp2_with fail
              refine (ask HS7.out HA7.out (by omega) (by omega) (by omega) HF.out).mono ?_
              rintro en w8 ⟨a1, c1, rfl, hM8, ht8, hs8⟩
              obtain ⟨l7, hl7, hx7⟩ := HS7.out.map
              have H18 := hide ht8
              have HS8 := hide hs8
              have HBB8 := hide (HBB.out.most hM8 hl7)
              have HA8 := hide (HA7.out.most hM8 hl7)
              have HI8 := hide (HI7.out.most hM8 hl7)
              have HT8 := hide (HT7.out.most hM8 hl7)
              have HB8 := hide (hM8.below HB7.out him4 hs7)
              clear ht8 hs8 hM8 hx7 hl7 l7 HS7 HA7 HI7 HT7 HB7 hs7 HBB
              go_wp2_with fail
              refine (ask HS8.out HBB8.out HBL.out HBS.out (by omega) ((filter_same ms tss).trans HF.out)).mono ?_
              rintro en w9 ⟨a2, c2, rfl, hM9, ht9, hs9⟩
              obtain ⟨l8, hl8, hx8⟩ := HS8.out.map
              have H19 := hide (H18.out.most hM9)
              have H29 := hide ht9
              have HS9 := hide hs9
              have HA9 := hide (HA8.out.most hM9 hl8)
              have HI9 := hide (HI8.out.most hM9 hl8)
              have HT9 := hide (HT8.out.most hM9 hl8)
              have HB9 := hide (hM9.below HB8.out him4 HB8.out.size)
              clear ht9 hs9 hM9 hx8 hl8 l8 HS8 HA8 HI8 HT8 HB8 HBB8 H18
              go_wp2_with fail
              refine (ask HS9.out HA9.out (by omega) (by omega) (by omega) HF.out).mono ?_
              rintro en w10 ⟨a3, c3, rfl, hM10, ht10, hs10⟩
              obtain ⟨l9, hl9, hx9⟩ := HS9.out.map
              have H1 := hide (H19.out.most hM10)
              have H2 := hide (H29.out.most hM10)
              have H3 := hide ht10
              have HI10 := hide (HI9.out.most hM10 hl9)
              have HT10 := hide (HT9.out.most hM10 hl9)
              have HB10 := hide (hM10.below HB9.out him4 HB9.out.size)
              clear ht10 hs10 hM10 hx9 hl9 l9 HS9 HA9 HI9 HT9 HB9 H19 H29
              have hFl : F.length ≤ 1048576 := by
                have h1 := List.length_filter_le (hold ms) tss
                have h2 := HF.out
                rw [h2] at h1
                omega
              go_wp2
              go_loopw [13, 14] (fun pv ev wr => ∃ (e p : Nat), e ≤ tss.length ∧ ev = .int .i64 e ∧ pv = .int .i64 p ∧ p ≤ F.length ∧ Hid (p = ((tss.take e).filter (hold ms)).length) ∧ Hid (Below w10.heap.size w10 wr)) (fun _ ev _ => tss.length - (intOf ev).toNat)
              case atStart => exact ⟨0, 0, by omega, rfl, rfl, by omega, rfl, Below.refl _ _⟩
              case round =>
                obtain ⟨e, p, he, rfl, rfl, hpF, HP, HB⟩ := hrel
                by_cases hlt : e < tss.length
                · obtain ⟨at1', ct1', hvt1, hrt⟩ := HT10.out
                  cases hvt1
                  obtain ⟨b, o, vti, hao, hc, hmi⟩ := hrt e tss[e] (by simp [hlt])
                  clear hrt
                  subst hao
                  have hat := @filter_at (hold ms) tss e _ hlt rfl
                  have hyes := @filter_yes (hold ms) tss e _ hlt rfl
                  have hno := @filter_no (hold ms) tss e _ hlt rfl
                  obtain ⟨ts, hts⟩ : ∃ ts, tss[e] = ts := ⟨_, rfl⟩
                  have htsl := HB4.out ts (by rw [← hts]; exact List.getElem_mem hlt)
                  rw [hts] at hmi hat hyes hno
                  clear hts
                  rw [← HP.out, HF.out] at hat
                  have HAT := hide hat
                  have HYES := hide hyes
                  have HNO := hide hno
                  clear hat hyes hno
                  have hc' := (Keeps.of HB.out).cell hc
                  have HMI := hide (hmi.keep (Keeps.of HB.out))
                  clear hc hmi
                  have hbl := lt_of_cell hc'
                  go_wp2_with fail
                  refine (holds_any vti (.slice ai2 ms.length ci2) ts ms wr HMI.out (HI10.out.keep (Keeps.of HB.out)) (by omega) (by omega)).mono ?_
                  rintro en wX ⟨rfl, hbX⟩
                  have hcX := (Keeps.of hbX).cell hc'
                  have HMX := hide (HMI.out.keep (Keeps.of hbX))
                  have HBX := hide (HB.out.trans (hbX.mono HB.out.size))
                  have hblX := lt_of_cell hcX
                  clear hbX
                  cases hh : hold ms ts with
                  | false =>
                    have HH := hide hh
                    clear hh
                    go_wp2
                    go_roundw
                    case rel => exact ⟨e + 1, p, by omega, by go_num, rfl, hpF, hide (by rw [HNO.out HH.out]; exact HP.out), HBX⟩
                    case measure => simp [intOf]; omega
                  | true =>
                    have HH := hide hh
                    clear hh
                    have hpl : p < F.length := by
                      rcases Nat.lt_or_ge p F.length with q | q
                      · exact q
                      · have := HAT.out HH.out; rw [List.getElem?_eq_none q] at this; cases this
                    have hplI : (p : Int) < (F.length : Int) := by omega
                    have heI : (e : Int) < (tss.length : Int) := by omega
                    obtain ⟨bb1, oo1, r1, hq1, k0, k1, hm1⟩ := H1.out.get HBX.out (HAT.out HH.out)
                    subst hq1
                    have HM1 := hide hm1
                    have hkl := lt_of_cell k0
                    clear hm1
                    have HMT1 := HMX
                    go_upto_region 28 with fail
                    go_cut [113] from 74 to 137 (fun t wx => t = .bool false ∧ Hid (Below wX.heap.size wX wx))
                    case first =>
                      go_region_with (first | (go_at_call 15; refine (byID r1 vt _).mono ?_; rintro en w' ⟨rfl, c, rfl⟩) | (go_at_call 14; refine (sets_at HM1.out HMT1.out htsl _).mono ?_; rintro en w' ⟨rfl, HBW⟩))
                      all_goals (go_wp2_with fail; go_meet; exact ⟨rfl, HBW⟩)
                    case rest =>
                      obtain ⟨rfl, HC2⟩ := hcut
                      have HBX2 := hide (HBX.out.trans (HC2.out.mono HBX.out.size))
                      have HMT2 := hide (HMT1.out.keep (Keeps.of HC2.out))
                      have hcX2 := (Keeps.of HC2.out).cell hcX
                      have hblX2 := lt_of_cell hcX2
                      obtain ⟨bb2, oo2, r2, hq2, k0, k1, hm2⟩ := H2.out.get HBX2.out (HAT.out HH.out)
                      subst hq2
                      have HM2 := hide hm2
                      have hkl := lt_of_cell k0
                      clear hm2
                      go_upto_region 30 with fail
                      obtain ⟨w2, hw2⟩ : ∃ x, x = wc := ⟨_, rfl⟩
                      subst hw2
                      go_cut [124] from 74 to 137 (fun t wx => t = .bool false ∧ Hid (Below w2.heap.size w2 wx))
                      case first =>
                        go_region_with (first | (go_at_call 15; refine (byID r2 vt _).mono ?_; rintro en w' ⟨rfl, c, rfl⟩) | (go_at_call 14; refine (sets_at HM2.out HMT2.out htsl _).mono ?_; rintro en w' ⟨rfl, HBW⟩))
                        all_goals (go_wp2_with fail; go_meet; exact ⟨rfl, HBW⟩)
                      case rest =>
                        obtain ⟨rfl, HC3⟩ := hcut
                        have HBX3 := hide (HBX2.out.trans (HC3.out.mono HBX2.out.size))
                        have HMT3 := hide (HMT2.out.keep (Keeps.of HC3.out))
                        have hcX3 := (Keeps.of HC3.out).cell hcX2
                        have hblX3 := lt_of_cell hcX3
                        obtain ⟨bb3, oo3, r3, hq3, k0, k1, hm3⟩ := H3.out.get HBX3.out (HAT.out HH.out)
                        subst hq3
                        have HM3 := hide hm3
                        have hkl := lt_of_cell k0
                        clear hm3
                        go_upto_region 32 with fail
                        obtain ⟨w3', hw3'⟩ : ∃ x, x = wc := ⟨_, rfl⟩
                        subst hw3'
                        go_cut [135] from 74 to 137 (fun t wx => t = .bool false ∧ Hid (Below w3'.heap.size w3' wx))
                        case first =>
                          go_region_with (first | (go_at_call 15; refine (byID r3 vt _).mono ?_; rintro en w' ⟨rfl, c, rfl⟩) | (go_at_call 14; refine (sets_at HM3.out HMT3.out htsl _).mono ?_; rintro en w' ⟨rfl, HBW⟩))
                          all_goals (go_wp2_with fail; go_meet; exact ⟨rfl, HBW⟩)
                        case rest =>
                          obtain ⟨rfl, HC4⟩ := hcut
                          have HBX4 := hide (HBX3.out.trans (HC4.out.mono HBX3.out.size))
                          go_wp2
                          go_roundw
                          case rel => exact ⟨e + 1, p + 1, by omega, by go_num, by go_num, by omega, hide (by rw [HYES.out HH.out, List.length_append, ← HP.out]; rfl), HBX4⟩
                          case measure => simp [intOf]; omega
                · obtain rfl : e = tss.length := by omega
                  have hpe : p = F.length := by
                    have := HP.out
                    rw [List.take_length, HF.out] at this
                    exact this
                  subst hpe
                  go_wp2
                  go_ret
                  exact ⟨rfl, HB10.out.trans (HB.out.mono HB10.out.size)⟩
end Go.Proofs.Qxb6604184a
