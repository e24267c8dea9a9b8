import Derived.Test.Qxb6604056aNlWalks
namespace Go.Proofs.Qxb6604056a
open Go.RowKit
set_option linter.unusedVariables false

theorem ex_bv' (s : ByteArray) (m i : Nat) (h : m + i < s.size) : bv (s.extract m s.size) i = bv s (m + i) := by
  have hs : (s.extract m s.size).size = s.size - m := by simp
  have h1 : i < (s.extract m s.size).size := by omega
  have e : (s.extract m s.size)[i] = s[m + i] := ByteArray.getElem_extract h1
  rw [← bv_at h1, ← bv_at h, e]
theorem dfr_ex (s : ByteArray) (k : Nat) (hk : k ≤ s.size) : Nl.dfr (bv (s.extract k s.size)) (s.extract k s.size).size 0 = Nl.dfr (bv s) s.size k := by
  have hs : (s.extract k s.size).size = s.size - k := by simp
  unfold Nl.dfr
  rw [hs, Nat.sub_zero]
  exact Nl.dl_congr _ _ _ fun u hu => by rw [Nat.zero_add]; exact ex_bv' s k u (by omega)
theorem dig_ex (s : ByteArray) (k : Nat) (w : World) (hk : k ≤ s.size) (h1 : s.size ≤ 1048576) :
    Calls Try.prog 21 #[.string (s.extract k s.size)] w fun en w' => en = .returned (.int .i64 (Nl.dfr (bv s) s.size k)) ∧ w = w' := by
  have hs : (s.extract k s.size).size = s.size - k := by simp
  have := dig21 (s.extract k s.size) w (by omega)
  rw [dfr_ex s k hk] at this
  exact this

theorem bool_eq {a b : Bool} (h : a = b) : Value.bool a = .bool b := by rw [h]
theorem mant_le (str : Bool) (c : Nat → Int) (n : Nat) : Nl.mant str c n ≤ n := by
  have l1 := Nl.dfr_le c n 0
  unfold Nl.mant
  split
  · rename_i h
    have l2 := Nl.dfr_le c n (Nl.dfr c n 0 + 1)
    have := h.1
    split <;> omega
  · omega

set_option maxRecDepth 100000 in
set_option maxHeartbeats 4000000 in
theorem len19 (s : ByteArray) (form : Int) (w : World) (h1 : s.size ≤ 1048576) :
    Calls Try.prog 19 #[.string s, .int .i64 form] w fun en w' => en = .returned (.int .i64 (Nl.nl (form == 1) (bv s) s.size)) ∧ w = w' := by
  have C0 := fun w => dig21 s w h1
  have H0 := hide C0; clear C0
  have l1 := Nl.dfr_le (bv s) s.size 0
  obtain ⟨d1, hd1⟩ : ∃ d1, Nl.dfr (bv s) s.size 0 = d1 := ⟨_, rfl⟩
  have HD1 := hide hd1
  rw [hd1] at H0 l1
  clear hd1
  have l1' : d1 ≤ s.size := by omega
  clear l1
  obtain ⟨M, hM⟩ : ∃ M, Nl.mant (form == 1) (bv s) s.size = M := ⟨_, rfl⟩
  have hMs : M ≤ s.size := by rw [← hM]; exact mant_le _ _ _
  have HM := hide hM; clear hM
  go_enter Try.func19, Try.ntmps19
  go_upto_region 2 with (go_at_call 21; refine (unhide H0 _).mono ?_; rintro en w' ⟨rfl, rfl⟩)
  go_cut [21] (fun t wx => t = .bool (decide (d1 < s.size ∧ bv s d1 = 46)) ∧ w = wx)
  case first =>
    by_cases hlt : d1 < s.size
    · have HE := hide (bv_at hlt)
      go_wp2
      go_meet
      case rel => exact ⟨bool_eq (by rw [Bool.eq_iff_iff]; have := HE.out; simp; omega), rfl⟩
    · go_wp2
      go_meet
      case rel => exact ⟨by rw [decide_eq_false (fun e => hlt e.1)], rfl⟩
  case rest =>
    obtain ⟨rfl, rfl⟩ := hcut
    by_cases hdot : d1 < s.size ∧ bv s d1 = 46
    · rw [decide_eq_true hdot]
      have hds : d1 < s.size := hdot.1
      have HT := hide hdot; clear hdot
      have l2 := Nl.dfr_le (bv s) s.size (d1 + 1)
      have C2 := fun w => dig_ex s (d1 + 1) w (by omega) h1
      obtain ⟨d2, hd2⟩ : ∃ d2, Nl.dfr (bv s) s.size (d1 + 1) = d2 := ⟨_, rfl⟩
      have HD2 := hide hd2
      rw [hd2] at l2 C2
      clear hd2
      have l2' : d1 + (1 + d2) ≤ s.size := by omega
      clear l2
      have H2 := hide C2; clear C2
      go_upto_region 4 with (go_at_call 21; refine (unhide H2 _).mono ?_; rintro en w' ⟨rfl, rfl⟩)
      go_cut [43] (fun t wx => t = .bool (decide ((0 < d1 ∧ 0 < d2) ∨ ((form == 1) = true ∧ 0 < d1 + d2))) ∧ w = wx)
      case first =>
        by_cases a1 : 0 < d1 <;> by_cases a2 : 0 < d2 <;> by_cases a3 : (form == 1) = true
        all_goals
          (try rw [Bool.not_eq_true] at a3)
          go_wp2
          go_meet
          case rel => exact ⟨bool_eq (by go_light; first | (simp [a1, a2, a3]; done) | (simp [a1, a2, a3]; omega)), rfl⟩
      case rest =>
        obtain ⟨rfl, rfl⟩ := hcut
        by_cases hk : (0 < d1 ∧ 0 < d2) ∨ ((form == 1) = true ∧ 0 < d1 + d2)
        · rw [decide_eq_true hk]
          have hMe : d1 + (1 + d2) = M := (Nl.mant_yes HD1.out HD2.out HT.out hk).symm.trans HM.out
          have hcast : (d1 : Int) + (1 + (d2 : Int)) = (M : Int) := by omega
          clear hk hMe
          go_upto_region 6 with fail
          clear hcast
          have hnz : ((M : Int) == 0) = decide (M = 0) := by rw [Bool.eq_iff_iff]; simp
          by_cases hz : M = 0
          · have hz' : ((M : Int) == 0) = true := by rw [hnz]; simp [hz]
            clear hnz
            go_wp2
            go_ret
            exact ⟨ret_int (by rw [Nl.nl_zero (HM.out.trans hz)]; rfl), rfl⟩
          · have hz' : ((M : Int) == 0) = false := by rw [hnz]; simp [hz]
            clear hnz
            have HN := hide (Nl.nl_more HM.out hz)
            go_upto_region 8 with fail
            go_cut [65] (fun t wx => t = .bool (decide (M < s.size ∧ (bv s M = 101 ∨ bv s M = 69))) ∧ w = wx)
            case first =>
              by_cases hlt : M < s.size
              · have HE := hide (bv_at hlt)
                go_wp2
                all_goals
                  go_meet
                  case rel => exact ⟨bool_eq (by go_light; rw [Bool.eq_iff_iff]; (try simp only [beq_eq_false_iff_ne, ne_eq, decide_eq_true_eq] at *); have := HE.out; first | (simp; omega) | omega), rfl⟩
              · go_wp2
                go_meet
                case rel => exact ⟨by rw [decide_eq_false (fun e => hlt e.1)], rfl⟩
            case rest =>
              obtain ⟨rfl, rfl⟩ := hcut
              by_cases he : M < s.size ∧ (bv s M = 101 ∨ bv s M = 69)
              · rw [decide_eq_true he]
                have hms : M < s.size := he.1
                have HX := hide he; clear he
                go_upto_region 10 with fail
                go_cut [83] (fun t wx => t = .bool (decide (M + 1 < s.size ∧ (bv s (M + 1) = 43 ∨ bv s (M + 1) = 45))) ∧ w = wx)
                case first =>
                  by_cases hlt : M + 1 < s.size
                  · have HE := hide (bv_at hlt)
                    have hlt' : (M : Int) + 1 < s.size := by omega
                    go_wp2
                    all_goals
                      go_meet
                      case rel => exact ⟨bool_eq (by go_light; rw [Bool.eq_iff_iff]; (try simp only [beq_eq_false_iff_ne, ne_eq, decide_eq_true_eq] at *); have := HE.out; first | (simp; omega) | omega), rfl⟩
                  · have hlt' : ¬ (M : Int) + 1 < s.size := by omega
                    go_wp2
                    go_meet
                    case rel => exact ⟨by rw [decide_eq_false (fun e => hlt e.1)], rfl⟩
                case rest =>
                  obtain ⟨rfl, rfl⟩ := hcut
                  by_cases hs : M + 1 < s.size ∧ (bv s (M + 1) = 43 ∨ bv s (M + 1) = 45)
                  · rw [decide_eq_true hs]
                    have hev : Nl.ev (bv s) s.size (M + 1) = M + 1 + 1 := by unfold Nl.ev; rw [if_pos hs]
                    have hms1 : M + 1 < s.size := hs.1
                    clear hs
                    have l3 := Nl.dfr_le (bv s) s.size (M + 1 + 1)
                    have C3 := fun w => dig_ex s (M + 1 + 1) w (by omega) h1
                    have hx : Nl.expo (bv s) s.size M = if 0 < Nl.dfr (bv s) s.size (M + 1 + 1) then M + 1 + 1 + Nl.dfr (bv s) s.size (M + 1 + 1) else M := by unfold Nl.expo; rw [if_pos HX.out, hev]
                    obtain ⟨d3, hd3⟩ : ∃ d3, Nl.dfr (bv s) s.size (M + 1 + 1) = d3 := ⟨_, rfl⟩
                    rw [hd3] at l3 C3 hx
                    have H3 := hide C3; have HY := hide hx
                    clear C3 hx hd3 hev
                    have l3' : M + 1 + 1 + d3 ≤ s.size := by omega
                    clear l3
                    have hsl : (M : Int) + 1 + 1 ≤ s.size := by omega
                    go_wp2_with (go_at_call 21; refine (unhide H3 _).mono ?_; rintro en w' ⟨rfl, rfl⟩)
                    all_goals
                      go_ret
                      exact ⟨ret_int (by rw [HN.out, HY.out]; go_light; first | (rw [if_pos (by omega)]; omega) | (rw [if_neg (by omega)])), rfl⟩
                  · rw [decide_eq_false hs]
                    have hev : Nl.ev (bv s) s.size (M + 1) = M + 1 := by unfold Nl.ev; rw [if_neg hs]
                    clear hs
                    have l3 := Nl.dfr_le (bv s) s.size (M + 1)
                    have C3 := fun w => dig_ex s (M + 1) w (by omega) h1
                    have hx : Nl.expo (bv s) s.size M = if 0 < Nl.dfr (bv s) s.size (M + 1) then M + 1 + Nl.dfr (bv s) s.size (M + 1) else M := by unfold Nl.expo; rw [if_pos HX.out, hev]
                    obtain ⟨d3, hd3⟩ : ∃ d3, Nl.dfr (bv s) s.size (M + 1) = d3 := ⟨_, rfl⟩
                    rw [hd3] at l3 C3 hx
                    have H3 := hide C3; have HY := hide hx
                    clear C3 hx hd3 hev
                    have l3' : M + 1 + d3 ≤ s.size := by omega
                    clear l3
                    have hsl : (M : Int) + 1 ≤ s.size := by omega
                    go_wp2_with (go_at_call 21; refine (unhide H3 _).mono ?_; rintro en w' ⟨rfl, rfl⟩)
                    all_goals
                      go_ret
                      exact ⟨ret_int (by rw [HN.out, HY.out]; go_light; first | (rw [if_pos (by omega)]; omega) | (rw [if_neg (by omega)])), rfl⟩
              · rw [decide_eq_false he]
                have hx : Nl.expo (bv s) s.size M = M := by unfold Nl.expo; rw [if_neg he]
                have HY := hide hx; clear hx he
                go_wp2
                go_ret
                exact ⟨ret_int (by rw [HN.out, HY.out]), rfl⟩
        · rw [decide_eq_false hk]
          obtain rfl : d1 = M := (Nl.mant_no HD1.out HD2.out HT.out hk).symm.trans HM.out
          clear hk
          obtain ⟨M, rfl⟩ : ∃ M, M = d1 := ⟨_, rfl⟩
          go_upto_region 6 with fail
          have hnz : ((M : Int) == 0) = decide (M = 0) := by rw [Bool.eq_iff_iff]; simp
          by_cases hz : M = 0
          · have hz' : ((M : Int) == 0) = true := by rw [hnz]; simp [hz]
            clear hnz
            go_wp2
            go_ret
            exact ⟨ret_int (by rw [Nl.nl_zero (HM.out.trans hz)]; rfl), rfl⟩
          · have hz' : ((M : Int) == 0) = false := by rw [hnz]; simp [hz]
            clear hnz
            have HN := hide (Nl.nl_more HM.out hz)
            go_upto_region 8 with fail
            go_cut [65] (fun t wx => t = .bool (decide (M < s.size ∧ (bv s M = 101 ∨ bv s M = 69))) ∧ w = wx)
            case first =>
              by_cases hlt : M < s.size
              · have HE := hide (bv_at hlt)
                go_wp2
                all_goals
                  go_meet
                  case rel => exact ⟨bool_eq (by go_light; rw [Bool.eq_iff_iff]; (try simp only [beq_eq_false_iff_ne, ne_eq, decide_eq_true_eq] at *); have := HE.out; first | (simp; omega) | omega), rfl⟩
              · exact absurd hds hlt
            case rest =>
              obtain ⟨rfl, rfl⟩ := hcut
              by_cases he : M < s.size ∧ (bv s M = 101 ∨ bv s M = 69)
              · rw [decide_eq_true he]
                have hms : M < s.size := he.1
                have HX := hide he; clear he
                go_upto_region 10 with fail
                go_cut [83] (fun t wx => t = .bool (decide (M + 1 < s.size ∧ (bv s (M + 1) = 43 ∨ bv s (M + 1) = 45))) ∧ w = wx)
                case first =>
                  by_cases hlt : M + 1 < s.size
                  · have HE := hide (bv_at hlt)
                    have hlt' : (M : Int) + 1 < s.size := by omega
                    go_wp2
                    all_goals
                      go_meet
                      case rel => exact ⟨bool_eq (by go_light; rw [Bool.eq_iff_iff]; (try simp only [beq_eq_false_iff_ne, ne_eq, decide_eq_true_eq] at *); have := HE.out; first | (simp; omega) | omega), rfl⟩
                  · have hlt' : ¬ (M : Int) + 1 < s.size := by omega
                    go_wp2
                    go_meet
                    case rel => exact ⟨by rw [decide_eq_false (fun e => hlt e.1)], rfl⟩
                case rest =>
                  obtain ⟨rfl, rfl⟩ := hcut
                  by_cases hs : M + 1 < s.size ∧ (bv s (M + 1) = 43 ∨ bv s (M + 1) = 45)
                  · rw [decide_eq_true hs]
                    have hev : Nl.ev (bv s) s.size (M + 1) = M + 1 + 1 := by unfold Nl.ev; rw [if_pos hs]
                    have hms1 : M + 1 < s.size := hs.1
                    clear hs
                    have l3 := Nl.dfr_le (bv s) s.size (M + 1 + 1)
                    have C3 := fun w => dig_ex s (M + 1 + 1) w (by omega) h1
                    have hx : Nl.expo (bv s) s.size M = if 0 < Nl.dfr (bv s) s.size (M + 1 + 1) then M + 1 + 1 + Nl.dfr (bv s) s.size (M + 1 + 1) else M := by unfold Nl.expo; rw [if_pos HX.out, hev]
                    obtain ⟨d3, hd3⟩ : ∃ d3, Nl.dfr (bv s) s.size (M + 1 + 1) = d3 := ⟨_, rfl⟩
                    rw [hd3] at l3 C3 hx
                    have H3 := hide C3; have HY := hide hx
                    clear C3 hx hd3 hev
                    have l3' : M + 1 + 1 + d3 ≤ s.size := by omega
                    clear l3
                    have hsl : (M : Int) + 1 + 1 ≤ s.size := by omega
                    go_wp2_with (go_at_call 21; refine (unhide H3 _).mono ?_; rintro en w' ⟨rfl, rfl⟩)
                    all_goals
                      go_ret
                      exact ⟨ret_int (by rw [HN.out, HY.out]; go_light; first | (rw [if_pos (by omega)]; omega) | (rw [if_neg (by omega)])), rfl⟩
                  · rw [decide_eq_false hs]
                    have hev : Nl.ev (bv s) s.size (M + 1) = M + 1 := by unfold Nl.ev; rw [if_neg hs]
                    clear hs
                    have l3 := Nl.dfr_le (bv s) s.size (M + 1)
                    have C3 := fun w => dig_ex s (M + 1) w (by omega) h1
                    have hx : Nl.expo (bv s) s.size M = if 0 < Nl.dfr (bv s) s.size (M + 1) then M + 1 + Nl.dfr (bv s) s.size (M + 1) else M := by unfold Nl.expo; rw [if_pos HX.out, hev]
                    obtain ⟨d3, hd3⟩ : ∃ d3, Nl.dfr (bv s) s.size (M + 1) = d3 := ⟨_, rfl⟩
                    rw [hd3] at l3 C3 hx
                    have H3 := hide C3; have HY := hide hx
                    clear C3 hx hd3 hev
                    have l3' : M + 1 + d3 ≤ s.size := by omega
                    clear l3
                    have hsl : (M : Int) + 1 ≤ s.size := by omega
                    go_wp2_with (go_at_call 21; refine (unhide H3 _).mono ?_; rintro en w' ⟨rfl, rfl⟩)
                    all_goals
                      go_ret
                      exact ⟨ret_int (by rw [HN.out, HY.out]; go_light; first | (rw [if_pos (by omega)]; omega) | (rw [if_neg (by omega)])), rfl⟩
              · rw [decide_eq_false he]
                have hx : Nl.expo (bv s) s.size M = M := by unfold Nl.expo; rw [if_neg he]
                have HY := hide hx; clear hx he
                go_wp2
                go_ret
                exact ⟨ret_int (by rw [HN.out, HY.out]), rfl⟩
    · rw [decide_eq_false hdot]
      obtain rfl : d1 = M := (Nl.mant_plain HD1.out hdot).symm.trans HM.out
      clear hdot
      obtain ⟨M, rfl⟩ : ∃ M, M = d1 := ⟨_, rfl⟩
      go_upto_region 6 with fail
      have hnz : ((M : Int) == 0) = decide (M = 0) := by rw [Bool.eq_iff_iff]; simp
      by_cases hz : M = 0
      · have hz' : ((M : Int) == 0) = true := by rw [hnz]; simp [hz]
        clear hnz
        go_wp2
        go_ret
        exact ⟨ret_int (by rw [Nl.nl_zero (HM.out.trans hz)]; rfl), rfl⟩
      · have hz' : ((M : Int) == 0) = false := by rw [hnz]; simp [hz]
        clear hnz
        have HN := hide (Nl.nl_more HM.out hz)
        go_upto_region 8 with fail
        go_cut [65] (fun t wx => t = .bool (decide (M < s.size ∧ (bv s M = 101 ∨ bv s M = 69))) ∧ w = wx)
        case first =>
          by_cases hlt : M < s.size
          · have HE := hide (bv_at hlt)
            go_wp2
            all_goals
              go_meet
              case rel => exact ⟨bool_eq (by go_light; rw [Bool.eq_iff_iff]; (try simp only [beq_eq_false_iff_ne, ne_eq, decide_eq_true_eq] at *); have := HE.out; first | (simp; omega) | omega), rfl⟩
          · go_wp2
            go_meet
            case rel => exact ⟨by rw [decide_eq_false (fun e => hlt e.1)], rfl⟩
        case rest =>
          obtain ⟨rfl, rfl⟩ := hcut
          by_cases he : M < s.size ∧ (bv s M = 101 ∨ bv s M = 69)
          · rw [decide_eq_true he]
            have hms : M < s.size := he.1
            have HX := hide he; clear he
            go_upto_region 10 with fail
            go_cut [83] (fun t wx => t = .bool (decide (M + 1 < s.size ∧ (bv s (M + 1) = 43 ∨ bv s (M + 1) = 45))) ∧ w = wx)
            case first =>
              by_cases hlt : M + 1 < s.size
              · have HE := hide (bv_at hlt)
                have hlt' : (M : Int) + 1 < s.size := by omega
                go_wp2
                all_goals
                  go_meet
                  case rel => exact ⟨bool_eq (by go_light; rw [Bool.eq_iff_iff]; (try simp only [beq_eq_false_iff_ne, ne_eq, decide_eq_true_eq] at *); have := HE.out; first | (simp; omega) | omega), rfl⟩
              · have hlt' : ¬ (M : Int) + 1 < s.size := by omega
                go_wp2
                go_meet
                case rel => exact ⟨by rw [decide_eq_false (fun e => hlt e.1)], rfl⟩
            case rest =>
              obtain ⟨rfl, rfl⟩ := hcut
              by_cases hs : M + 1 < s.size ∧ (bv s (M + 1) = 43 ∨ bv s (M + 1) = 45)
              · rw [decide_eq_true hs]
                have hev : Nl.ev (bv s) s.size (M + 1) = M + 1 + 1 := by unfold Nl.ev; rw [if_pos hs]
                have hms1 : M + 1 < s.size := hs.1
                clear hs
                have l3 := Nl.dfr_le (bv s) s.size (M + 1 + 1)
                have C3 := fun w => dig_ex s (M + 1 + 1) w (by omega) h1
                have hx : Nl.expo (bv s) s.size M = if 0 < Nl.dfr (bv s) s.size (M + 1 + 1) then M + 1 + 1 + Nl.dfr (bv s) s.size (M + 1 + 1) else M := by unfold Nl.expo; rw [if_pos HX.out, hev]
                obtain ⟨d3, hd3⟩ : ∃ d3, Nl.dfr (bv s) s.size (M + 1 + 1) = d3 := ⟨_, rfl⟩
                rw [hd3] at l3 C3 hx
                have H3 := hide C3; have HY := hide hx
                clear C3 hx hd3 hev
                have l3' : M + 1 + 1 + d3 ≤ s.size := by omega
                clear l3
                have hsl : (M : Int) + 1 + 1 ≤ s.size := by omega
                go_wp2_with (go_at_call 21; refine (unhide H3 _).mono ?_; rintro en w' ⟨rfl, rfl⟩)
                all_goals
                  go_ret
                  exact ⟨ret_int (by rw [HN.out, HY.out]; go_light; first | (rw [if_pos (by omega)]; omega) | (rw [if_neg (by omega)])), rfl⟩
              · rw [decide_eq_false hs]
                have hev : Nl.ev (bv s) s.size (M + 1) = M + 1 := by unfold Nl.ev; rw [if_neg hs]
                clear hs
                have l3 := Nl.dfr_le (bv s) s.size (M + 1)
                have C3 := fun w => dig_ex s (M + 1) w (by omega) h1
                have hx : Nl.expo (bv s) s.size M = if 0 < Nl.dfr (bv s) s.size (M + 1) then M + 1 + Nl.dfr (bv s) s.size (M + 1) else M := by unfold Nl.expo; rw [if_pos HX.out, hev]
                obtain ⟨d3, hd3⟩ : ∃ d3, Nl.dfr (bv s) s.size (M + 1) = d3 := ⟨_, rfl⟩
                rw [hd3] at l3 C3 hx
                have H3 := hide C3; have HY := hide hx
                clear C3 hx hd3 hev
                have l3' : M + 1 + d3 ≤ s.size := by omega
                clear l3
                have hsl : (M : Int) + 1 ≤ s.size := by omega
                go_wp2_with (go_at_call 21; refine (unhide H3 _).mono ?_; rintro en w' ⟨rfl, rfl⟩)
                all_goals
                  go_ret
                  exact ⟨ret_int (by rw [HN.out, HY.out]; go_light; first | (rw [if_pos (by omega)]; omega) | (rw [if_neg (by omega)])), rfl⟩
          · rw [decide_eq_false he]
            have hx : Nl.expo (bv s) s.size M = M := by unfold Nl.expo; rw [if_neg he]
            have HY := hide hx; clear hx he
            go_wp2
            go_ret
            exact ⟨ret_int (by rw [HN.out, HY.out]), rfl⟩
end Go.Proofs.Qxb6604056a
