import Derived.Test.Qxb6603993aArr
namespace Go.Proofs.Qxb6603993a
open Go.RowKit
set_option linter.unusedVariables false

/-- The array's first k cells are struck to zero. -/
def strike (f : Nat → Int) (k : Nat) : Nat → Int := fun j => if j < k then 0 else f j
theorem strike_zero (f : Nat → Int) : A (strike f 0) = A f := A_congr fun j _ => by simp [strike]
theorem strike_succ (f : Nat → Int) (k : Nat) : (A (strike f k)).setIfInBounds k (.int .i64 0) = A (strike f (k + 1)) := by
  rw [A_set]
  refine A_congr fun j _ => ?_
  unfold strike
  by_cases e : j = k
  · subst e; simp
  · by_cases e2 : j < k
    · simp [e, e2, show j < k + 1 by omega]
    · simp [e, e2, show ¬ j < k + 1 by omega]
/-- One is added at place k, and the places ahead of it are zero. -/
def bump (f : Nat → Int) (k : Nat) : Nat → Int := fun j => if j = k then f k + 1 else strike f k j
theorem bump_of (f : Nat → Int) (k : Nat) : (A (strike f k)).setIfInBounds k (.int .i64 (f k + 1)) = A (bump f k) := by
  rw [A_set]; rfl
theorem load41 (w : World) (g : Nat) (cs : Array Value) (hg : w.heap[g]? = some (.cells cs 41 (0, 0))) (hi : (Try.prog.info? 41).map (·.size) = some cs.size) :
    (loadVar 41 ⟨g, 0, none⟩).run Try.prog w = .ok (.agg cs) w := run_loadVar_row w g 41 41 cs (0, 0) _ hg Try.underlying41 rfl hi
theorem tuple_row {f : Func} {p : Tmp} {q : Tmp} (h : f.results = #[.cell p 41, .tmp q]) (tmps : Array Value) (w : World) (g : Nat) (cs : Array Value) (v : Value)
    (hp : tmps.getD p undef = .pointer (some ⟨g, 0, none⟩)) (hq : tmps.getD q undef = v) (hg : w.heap[g]? = some (.cells cs 41 (0, 0))) (hi : (Try.prog.info? 41).map (·.size) = some cs.size) :
    (results f tmps).run Try.prog w = .ok (.tuple #[.agg cs, v]) w := by
  have hp' : tmps[p]?.getD undef = .pointer (some ⟨g, 0, none⟩) := by simpa using hp
  have hq' : tmps[q]?.getD undef = v := by simpa using hq
  simp [results, h, hp', hq', asAddr, load41 w g cs hg hi]
/-- The second of two rows is written. -/
theorem setRow_snd (w : World) (c d cs : Array Value) (t : TypeId) : ((w.alloc (.cells c t)).alloc (.cells d t)).setRow (w.heap.size + 1) cs = (w.alloc (.cells c t)).alloc (.cells cs t) := by
  have := setRow_alloc_at (w.alloc (.cells c t)) d cs t
  simpa using this

set_option maxRecDepth 100000 in
set_option maxHeartbeats 1000000 in
theorem inc_at (f : Nat → Int) (n : Nat) (e : Int) (w : World) (hn : n < 36) (h9 : ∀ j, j < n → f j = 9) (hne : f n ≠ 9) (b0 : 0 ≤ f n) (b1 : f n ≤ 9) :
    Calls Try.prog 18 #[.agg (A f), .int .i32 e] w fun en w' => en = .returned (.tuple #[.agg (A (bump f n)), .int .i32 e]) ∧ ∃ c d, w' = (w.alloc (.cells c 41)).alloc (.cells d 41) := by
  obtain ⟨a0, HA0⟩ : ∃ a0, Hid (a0 = A f) := ⟨_, rfl⟩
  rw [show A f = a0 from HA0.out.symm]
  have H9 := hide h9; clear h9
  obtain ⟨x, hx⟩ : ∃ x, f n = x := ⟨_, rfl⟩
  rw [hx] at hne b0 b1
  have HX := hide hx; clear hx
  have hne' : (x == 9) = false := by simp [hne]
  go_enter Try.func18, Try.ntmps18
  go_wp2
  rw [Z_lit]
  obtain ⟨z, HZ⟩ : ∃ z, Hid (z = Z) := ⟨_, rfl⟩
  rw [show Z = z from HZ.out.symm]
  go_loopw [6] (fun iv wr => ∃ (k : Nat) (arr : Array Value), k ≤ n ∧ iv = .int .i64 k ∧ wr = (w.alloc (.cells arr 41)).alloc (.cells z 41) ∧ Hid (arr = A (strike f k))) (fun iv _ => n - (intOf iv).toNat)
  case atStart => exact ⟨0, a0, by omega, rfl, rfl, by show _ = _; rw [strike_zero]; exact HA0⟩
  case round =>
    obtain ⟨k, arr, hk, rfl, rfl, HA⟩ := hrel
    by_cases hlt : k < n
    · have hg : arr[k]? = some (.int .i64 9) := by rw [HA.out, A_get _ k (by omega)]; simp [strike, H9.out k hlt]
      have hlt' : k < 36 := by omega
      go_wp2
      go_roundw
      case rel => exact ⟨k + 1, _, by omega, by go_num, rfl, by show _ = _; rw [HA.out, ← strike_succ]⟩
      case measure => simp [intOf]; omega
    · obtain rfl : k = n := by omega
      have hg : arr[k]? = some (.int .i64 x) := by rw [HA.out, A_get _ k hn]; simp [strike, HX.out]
      have HB : Hid (arr.setIfInBounds k (.int .i64 (x + 1)) = A (bump f k)) := by show _ = _; rw [HA.out, ← bump_of, HX.out]
      clear hlt hk hne
      have hz : z.size = (arr.setIfInBounds k (.int .i64 (x + 1))).size := by rw [HZ.out, HB.out, Z, A_size, A_size]
      have hi : (Try.prog.info? 41).map (·.size) = some (arr.setIfInBounds k (.int .i64 (x + 1))).size := by rw [HB.out]; exact A_info _
      have ho : (arr.setIfInBounds k (.int .i64 (x + 1))).all (·.oneCell') = true := by rw [HB.out]; exact A_one _
      have R2 := row_two w (.cells (arr.setIfInBounds k (.int .i64 (x + 1))) 41) (.cells z 41)
      have R3 := row_two w (.cells (arr.setIfInBounds k (.int .i64 (x + 1))) 41) (.cells (arr.setIfInBounds k (.int .i64 (x + 1))) 41)
      have H1 := hide R2.1; have H2 := hide R2.2; have H3 := hide R3.2; have H4 := hide hz; have H5 := hide hi; have H6 := hide ho
      clear R2 R3 hz hi ho HA HZ
      go_wp2_with (first | (refine wpList_load_row rfl 41 _ rfl w.heap.size rfl 41 _ (0, 0) _ H1.out Try.underlying41 rfl H5.out ?_) | (refine wpList_store_row rfl 41 _ _ rfl (w.heap.size + 1) _ rfl rfl 41 z H2.out H5.out H4.out H6.out ?_; rw [setRow_snd]))
      exact bodyPost_ret (v := .tuple #[.agg (arr.setIfInBounds k (.int .i64 (x + 1))), .int .i32 e]) (tuple_row rfl _ _ (w.heap.size + 1) _ _ rfl rfl H3.out H5.out) rfl ⟨by rw [HB.out], _, _, rfl⟩

def tops : Nat → Int := fun j => if j = 35 then 1 else 0
theorem tops_of (f : Nat → Int) : (A (strike f 36)).setIfInBounds 35 (.int .i64 1) = A tops := by
  rw [A_set]
  refine A_congr fun j hj => ?_
  unfold tops strike
  by_cases e : j = 35
  · simp [e]
  · simp [e, hj]

set_option maxRecDepth 100000 in
set_option maxHeartbeats 1000000 in
theorem inc_all (f : Nat → Int) (e : Int) (w : World) (h9 : ∀ j, j < 36 → f j = 9) :
    Calls Try.prog 18 #[.agg (A f), .int .i32 e] w fun en w' => en = .returned (.tuple #[.agg (A tops), .int .i32 (wrap32 (e + 1))]) ∧ ∃ c d, w' = (w.alloc (.cells c 41)).alloc (.cells d 41) := by
  obtain ⟨a0, HA0⟩ : ∃ a0, Hid (a0 = A f) := ⟨_, rfl⟩
  rw [show A f = a0 from HA0.out.symm]
  have H9 := hide h9; clear h9
  go_enter Try.func18, Try.ntmps18
  go_wp2
  rw [Z_lit]
  obtain ⟨z, HZ⟩ : ∃ z, Hid (z = Z) := ⟨_, rfl⟩
  rw [show Z = z from HZ.out.symm]
  go_loopw [6] (fun iv wr => ∃ (k : Nat) (arr : Array Value), k ≤ 36 ∧ iv = .int .i64 k ∧ wr = (w.alloc (.cells arr 41)).alloc (.cells z 41) ∧ Hid (arr = A (strike f k))) (fun iv _ => 36 - (intOf iv).toNat)
  case atStart => exact ⟨0, a0, by omega, rfl, rfl, by show _ = _; rw [strike_zero]; exact HA0⟩
  case round =>
    obtain ⟨k, arr, hk, rfl, rfl, HA⟩ := hrel
    by_cases hlt : k < 36
    · have hg : arr[k]? = some (.int .i64 9) := by rw [HA.out, A_get _ k (by omega)]; simp [strike, H9.out k hlt]
      go_wp2
      go_roundw
      case rel => exact ⟨k + 1, _, by omega, by go_num, rfl, by show _ = _; rw [HA.out, ← strike_succ]⟩
      case measure => simp [intOf]; omega
    · obtain rfl : k = 36 := by omega
      have hg : arr[35]? = some (.int .i64 0) := by rw [HA.out, A_get _ 35 (by omega)]; rfl
      have HB : Hid (arr.setIfInBounds 35 (.int .i64 1) = A tops) := by show _ = _; rw [HA.out, tops_of]
      clear hlt hk
      have hz : z.size = (arr.setIfInBounds 35 (.int .i64 1)).size := by rw [HZ.out, HB.out, Z, A_size, A_size]
      have hi : (Try.prog.info? 41).map (·.size) = some (arr.setIfInBounds 35 (.int .i64 1)).size := by rw [HB.out]; exact A_info _
      have ho : (arr.setIfInBounds 35 (.int .i64 1)).all (·.oneCell') = true := by rw [HB.out]; exact A_one _
      have R2 := row_two w (.cells (arr.setIfInBounds 35 (.int .i64 1)) 41) (.cells z 41)
      have R3 := row_two w (.cells (arr.setIfInBounds 35 (.int .i64 1)) 41) (.cells (arr.setIfInBounds 35 (.int .i64 1)) 41)
      have H1 := hide R2.1; have H2 := hide R2.2; have H3 := hide R3.2; have H4 := hide hz; have H5 := hide hi; have H6 := hide ho
      clear R2 R3 hz hi ho HA HZ
      go_wp2_with (first | (refine wpList_load_row rfl 41 _ rfl w.heap.size rfl 41 _ (0, 0) _ H1.out Try.underlying41 rfl H5.out ?_) | (refine wpList_store_row rfl 41 _ _ rfl (w.heap.size + 1) _ rfl rfl 41 z H2.out H5.out H4.out H6.out ?_; rw [setRow_snd]))
      exact bodyPost_ret (v := .tuple #[.agg (arr.setIfInBounds 35 (.int .i64 1)), .int .i32 (wrap32 (e + 1))]) (tuple_row rfl _ _ (w.heap.size + 1) _ _ rfl rfl H3.out H5.out) rfl ⟨by rw [HB.out], _, _, rfl⟩

theorem dv_top (l : Int) (h0 : 0 ≤ l) (h1 : l < 1000000000000000000) : dv l 18 = 0 := by
  unfold dv
  exact Int.ediv_eq_zero_of_lt h0 (by simpa using h1)
theorem dv_step (l : Int) (k : Nat) : dv l (k + 1) * 10 + dv l k % 10 = dv l k := by
  rw [← dv_succ]; omega

set_option maxRecDepth 100000 in
set_option maxHeartbeats 1000000 in
theorem pack_any (h l : Int) (w : World) (h0 : 0 ≤ h) (l0 : 0 ≤ l) (h1 : h < 1000000000000000000) (l1 : l < 1000000000000000000) :
    Calls Try.prog 20 #[.agg (A (dg h l))] w fun en w' => en = .returned (.tuple #[.int .u64 h, .int .u64 l]) ∧ ∃ c, w' = w.alloc (.cells c 41) := by
  obtain ⟨a0, HA0⟩ : ∃ a0, Hid (a0 = A (dg h l)) := ⟨_, rfl⟩
  rw [show A (dg h l) = a0 from HA0.out.symm]
  have HH := hide (dv_top h h0 h1)
  have HL := hide (dv_top l l0 l1)
  go_enter Try.func20, Try.ntmps20
  go_wp2
  go_loopw [4, 6] (fun hv iv wr => ∃ (k : Nat), k ≤ 18 ∧ iv = .int .i64 (17 + (k : Int)) ∧ hv = .int .u64 (dv h k) ∧ wr = w.alloc (.cells a0 41)) (fun _ iv _ => (intOf iv - 17).toNat)
  case atStart => exact ⟨18, by omega, rfl, by rw [HH.out], rfl⟩
  case round =>
    obtain ⟨k, hk, rfl, rfl, rfl⟩ := hrel
    have hb := dv_bd h k h0
    by_cases hz : k = 0
    · subst hz
      go_wp2
      go_loopw [5, 7] (fun lv iv wr => ∃ (k : Nat), k ≤ 18 ∧ iv = .int .i64 ((k : Int) - 1) ∧ lv = .int .u64 (dv l k) ∧ wr = w.alloc (.cells a0 41)) (fun _ iv _ => (intOf iv + 1).toNat)
      case atStart => exact ⟨18, by omega, rfl, by rw [HL.out], rfl⟩
      case round =>
        obtain ⟨k, hk, rfl, rfl, rfl⟩ := hrel
        have hb' := dv_bd l k l0
        by_cases hz : k = 0
        · subst hz
          go_wp2
          refine bodyPost_ret (v := .tuple #[.int .u64 (dv h 0), .int .u64 (dv l 0)]) (by simp [results, Try.results20, go_sem]) rfl ⟨by rw [dv_zero, dv_zero], _, rfl⟩
        · obtain ⟨n, rfl⟩ : ∃ n, k = n + 1 := ⟨k - 1, by omega⟩
          have hg : a0[n]? = some (.int .i64 (dv l n % 10)) := by rw [HA0.out, A_get _ _ (by omega)]; simp [dg, show n < 18 by omega]
          have hn : n < 18 := by omega
          clear hz
          go_wp2
          go_roundw
          case rel => exact ⟨n, by omega, by go_num, by rw [dv_step], trivial⟩
          case measure => simp [intOf]
    · obtain ⟨n, rfl⟩ : ∃ n, k = n + 1 := ⟨k - 1, by omega⟩
      have hg : a0[17 + (n + 1)]? = some (.int .i64 (dv h n % 10)) := by rw [HA0.out, A_get _ _ (by omega)]; simp [dg, show ¬ 17 + (n + 1) < 18 by omega, show 17 + (n + 1) - 18 = n by omega]
      go_wp2
      go_roundw
      case rel => exact ⟨n, by omega, by go_num, by rw [dv_step], trivial⟩
      case measure => simp [intOf]; omega
end Go.Proofs.Qxb6603993a
