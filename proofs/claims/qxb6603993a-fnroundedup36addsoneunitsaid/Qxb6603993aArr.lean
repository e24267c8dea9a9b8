import Derived.Test.Qxb6603993aWalks
import Derived.Laws.Rows
namespace Go.Proofs.Qxb6603993a
open Go.RowKit
set_option linter.unusedVariables false

/-- An array of 36 ints. -/
def A (f : Nat → Int) : Array Value := Array.ofFn (n := 36) fun i => .int .i64 (f i)
theorem A_size (f : Nat → Int) : (A f).size = 36 := by simp [A]
theorem A_get (f : Nat → Int) (k : Nat) (h : k < 36) : (A f)[k]? = some (.int .i64 (f k)) := by
  unfold A; rw [Array.getElem?_eq_getElem (by simpa using h)]; simp
theorem A_set (f : Nat → Int) (k : Nat) (v : Int) : (A f).setIfInBounds k (.int .i64 v) = A (fun j => if j = k then v else f j) := by
  apply Array.ext
  · simp [A_size]
  · intro i h1 h2
    have hi : i < 36 := by simpa [A_size] using h1
    rw [Array.getElem_setIfInBounds (by simpa [A_size] using hi)]
    simp only [A, Array.getElem_ofFn]
    by_cases e : k = i
    · subst e; simp
    · simp [e, Ne.symm e]
theorem A_congr {f g : Nat → Int} (h : ∀ j, j < 36 → f j = g j) : A f = A g := by
  apply Array.ext
  · simp [A_size]
  · intro i h1 h2
    simp only [A, Array.getElem_ofFn]
    rw [h i (by simpa [A_size] using h1)]
theorem A_one (f : Nat → Int) : (A f).all (·.oneCell') = true := by
  rw [Array.all_eq_true_iff_forall_mem]
  intro v hv
  simp only [A, Array.mem_ofFn] at hv
  obtain ⟨i, rfl⟩ := hv
  rfl
theorem A_info (f : Nat → Int) : (Try.prog.info? 41).map (·.size) = some (A f).size := by rw [A_size]; kernel_rfl
theorem setRow_alloc_at (w : World) (c cs : Array Value) (t : TypeId) : (w.alloc (.cells c t)).setRow w.heap.size cs = w.alloc (.cells cs t) := by
  unfold World.setRow World.alloc
  congr 1
  apply Array.ext_getElem?
  intro k
  simp only [Array.getElem?_modify, Array.getElem?_push]
  by_cases hk : k = w.heap.size
  · subst hk; simp
  · simp [hk, Ne.symm hk]
theorem setRow_alloc_past (w : World) (o : Obj) (g : Nat) (cs : Array Value) (hg : g < w.heap.size) : (w.alloc o).setRow g cs = (w.setRow g cs).alloc o := by
  unfold World.setRow World.alloc
  congr 1
  apply Array.ext_getElem?
  intro k
  simp only [Array.getElem?_modify, Array.getElem?_push, Array.size_modify]
  by_cases hk : k = w.heap.size
  · subst hk; simp [Nat.ne_of_lt hg]
  · simp [hk]
theorem row_last (w : World) (o : Obj) : (w.alloc o).heap[w.heap.size]? = some o := by show (w.heap.push o)[w.heap.size]? = some o; simp
theorem row_past (w : World) (o : Obj) (g : Nat) (hg : g < w.heap.size) : (w.alloc o).heap[g]? = w.heap[g]? := Below.heap_alloc w o g hg
theorem row_two (w : World) (x y : Obj) : ((w.alloc x).alloc y).heap[w.heap.size]? = some x ∧ ((w.alloc x).alloc y).heap[w.heap.size + 1]? = some y := by
  constructor
  · rw [row_past _ _ _ (by simp), row_last]
  · have := row_last (w.alloc x) y; simpa using this
theorem setRow_two (w : World) (c d cs : Array Value) (t : TypeId) : ((w.alloc (.cells c t)).alloc (.cells d t)).setRow w.heap.size cs = (w.alloc (.cells cs t)).alloc (.cells d t) := by
  rw [setRow_alloc_past _ _ _ _ (by simp), setRow_alloc_at]

/-- 36 zeros. -/
def Z : Array Value := A fun _ => 0
theorem Z_lit : (#[.int .i64 0, .int .i64 0, .int .i64 0, .int .i64 0, .int .i64 0, .int .i64 0, .int .i64 0, .int .i64 0, .int .i64 0, .int .i64 0, .int .i64 0, .int .i64 0, .int .i64 0, .int .i64 0, .int .i64 0, .int .i64 0, .int .i64 0, .int .i64 0, .int .i64 0, .int .i64 0, .int .i64 0, .int .i64 0, .int .i64 0, .int .i64 0, .int .i64 0, .int .i64 0, .int .i64 0, .int .i64 0, .int .i64 0, .int .i64 0, .int .i64 0, .int .i64 0, .int .i64 0, .int .i64 0, .int .i64 0, .int .i64 0] : Array Value) = Z := by
  unfold Z A; rfl

/-- l without its k last digits. -/
def dv (l : Int) (k : Nat) : Int := l / 10 ^ k
theorem dv_zero (l : Int) : dv l 0 = l := by simp [dv]
theorem dv_succ (l : Int) (k : Nat) : dv l k / 10 = dv l (k + 1) := by
  unfold dv
  rw [Int.ediv_ediv_of_nonneg (Int.pow_nonneg (by decide)), Int.pow_succ]
theorem dv_bd (l : Int) (k : Nat) (h0 : 0 ≤ l) : 0 ≤ dv l k ∧ dv l k ≤ l := by
  unfold dv
  exact ⟨Int.ediv_nonneg h0 (Int.pow_nonneg (by decide)), Int.ediv_le_self _ h0⟩
/-- The digits that are laid when k of them are. -/
def lay (l : Int) (k : Nat) : Nat → Int := fun j => if j < k then dv l j % 10 else 0
theorem lay_zero (l : Int) : A (lay l 0) = Z := A_congr fun j _ => by simp [lay]
theorem lay_succ (l : Int) (k : Nat) : (A (lay l k)).setIfInBounds k (.int .i64 (dv l k % 10)) = A (lay l (k + 1)) := by
  rw [A_set]
  refine A_congr fun j _ => ?_
  unfold lay
  by_cases e : j = k
  · subst e; simp
  · by_cases e2 : j < k
    · simp [e, e2, show j < k + 1 by omega]
    · simp [e, e2, show ¬ j < k + 1 by omega]

/-- The same for the high word: k of its digits are laid from place 18 on. -/
def lay2 (l h : Int) (k : Nat) : Nat → Int := fun j => if j < 18 then dv l j % 10 else if j < 18 + k then dv h (j - 18) % 10 else 0
theorem lay2_zero (l h : Int) : A (lay l 18) = A (lay2 l h 0) := A_congr fun j _ => by
  unfold lay lay2
  by_cases e : j < 18 <;> simp [e]
theorem lay2_succ (l h : Int) (k : Nat) : (A (lay2 l h k)).setIfInBounds (18 + k) (.int .i64 (dv h k % 10)) = A (lay2 l h (k + 1)) := by
  rw [A_set]
  refine A_congr fun j _ => ?_
  unfold lay2
  by_cases e : j = 18 + k
  · subst e; simp [show ¬ 18 + k < 18 by omega]
  · by_cases e1 : j < 18
    · simp [e, e1]
    · by_cases e2 : j < 18 + k
      · simp [e, e1, e2, show j < 18 + (k + 1) by omega]
      · simp [e, e1, e2, show ¬ j < 18 + (k + 1) by omega]

/-- The digits of h and l. -/
def dg (h l : Int) : Nat → Int := fun j => if j < 18 then dv l j % 10 else dv h (j - 18) % 10
theorem lay2_all (l h : Int) : A (lay2 l h 18) = A (dg h l) := A_congr fun j hj => by
  unfold lay2 dg
  by_cases e : j < 18
  · simp [e]
  · simp [e, show j < 18 + 18 by omega]

set_option maxRecDepth 100000 in
set_option maxHeartbeats 1000000 in
theorem digits_any (h l : Int) (w : World) (h0 : 0 ≤ h) (l0 : 0 ≤ l) (h1 : h < 1000000000000000000) (l1 : l < 1000000000000000000) :
    Calls Try.prog 19 #[.int .u64 h, .int .u64 l] w fun en w' => en = .returned (.agg (A (dg h l))) ∧ ∃ c d, w' = (w.alloc (.cells c 41)).alloc (.cells d 41) := by
  go_enter Try.func19, Try.ntmps19
  go_wp2
  rw [Z_lit]
  have hZ : ∃ z, z = Z := ⟨_, rfl⟩
  obtain ⟨z, hz⟩ := hZ
  rw [← hz]
  have HZ := hide hz; clear hz
  go_loopw [1, 6] (fun lv iv wr => ∃ (k : Nat) (arr : Array Value), k ≤ 18 ∧ iv = .int .i64 k ∧ lv = .int .u64 (dv l k) ∧ wr = (w.alloc (.cells z 41)).alloc (.cells arr 41) ∧ Hid (arr = A (lay l k))) (fun _ iv _ => 18 - (intOf iv).toNat)
  case atStart => exact ⟨0, z, by omega, rfl, by rw [dv_zero], rfl, by rw [lay_zero]; exact HZ⟩
  case round =>
    obtain ⟨k, arr, hk, rfl, rfl, rfl, HA⟩ := hrel
    have hb := dv_bd l k l0
    by_cases hlt : k < 18
    · obtain ⟨v, hg⟩ : ∃ v, arr[k]? = some (.int .i64 v) := ⟨_, by rw [HA.out]; exact A_get (lay l k) k (by omega)⟩
      go_wp2
      go_roundw
      case rel => exact ⟨k + 1, _, by omega, by go_num, by rw [dv_succ], rfl, by show _ = _; rw [HA.out, ← lay_succ]⟩
      case measure => simp [intOf]; omega
    · obtain rfl : k = 18 := by omega
      have HB : Hid (arr = A (lay2 l h 0)) := by show _ = _; rw [← lay2_zero]; exact HA
      clear HA hlt hk
      go_wp2
      go_loopw [0, 7] (fun hv iv wr => ∃ (k : Nat) (arr : Array Value), k ≤ 18 ∧ iv = .int .i64 ((18 + k : Nat) : Int) ∧ hv = .int .u64 (dv h k) ∧ wr = (w.alloc (.cells z 41)).alloc (.cells arr 41) ∧ Hid (arr = A (lay2 l h k))) (fun _ iv _ => 36 - (intOf iv).toNat)
      case atStart => exact ⟨0, arr, by omega, rfl, by rw [dv_zero], rfl, HB⟩
      case round =>
        clear HB
        obtain ⟨k, arr, hk, rfl, rfl, rfl, HA⟩ := hrel
        have hb' := dv_bd h k h0
        by_cases hlt : k < 18
        · obtain ⟨v, hg⟩ : ∃ v, arr[18 + k]? = some (.int .i64 v) := ⟨_, by rw [HA.out]; exact A_get (lay2 l h k) (18 + k) (by omega)⟩
          go_wp2
          go_roundw
          case rel => exact ⟨k + 1, _, by omega, by go_num, by rw [dv_succ], rfl, by show _ = _; rw [HA.out, ← lay2_succ]⟩
          case measure => simp [intOf]; omega
        · obtain rfl : k = 18 := by omega
          have HE : Hid (arr = A (dg h l)) := by show _ = _; rw [← lay2_all]; exact HA
          have hz : z.size = arr.size := by rw [HZ.out, HA.out, Z, A_size, A_size]
          have hi : (Try.prog.info? 41).map (·.size) = some arr.size := by rw [HA.out]; exact A_info _
          have ho : arr.all (·.oneCell') = true := by rw [HA.out]; exact A_one _
          have R2 := row_two w (.cells z 41) (.cells arr 41)
          have R3 := row_two w (.cells arr 41) (.cells arr 41)
          have H1 := hide R2.1; have H2 := hide R2.2; have H3 := hide R3.1; have H4 := hide hz; have H5 := hide hi; have H6 := hide ho
          clear R2 R3 hz hi ho HA HZ
          go_wp2_with (first | (refine wpList_load_row rfl 41 _ rfl (w.heap.size + 1) rfl 41 arr (0, 0) _ H2.out Try.underlying41 rfl H5.out ?_) | (refine wpList_store_row rfl 41 _ _ rfl w.heap.size arr rfl rfl 41 z H1.out H5.out H4.out H6.out ?_; rw [setRow_two]))
          exact bodyPost_ret (v := .agg arr) (results_cell_row rfl _ _ w.heap.size 41 arr (0, 0) _ rfl H3.out Try.underlying41 rfl H5.out) rfl ⟨by rw [HE.out], _, _, rfl⟩
end Go.Proofs.Qxb6603993a
