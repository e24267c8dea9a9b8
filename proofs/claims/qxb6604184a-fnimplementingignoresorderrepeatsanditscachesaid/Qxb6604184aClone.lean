import Derived.Test.Qxb6604184aSizes
import Derived.Laws.MakeOwn
import Derived.Laws.Rows

namespace Go.Proofs.Qxb6604184a
open Go.RowKit
set_option linter.unusedVariables false

/-! ### Rows that the call has made -/
def RowIs (w : World) (g : Nat) (T : TypeId) (arr : Array Value) : Prop := w.heap[g]? = some (.cells arr T (0, 0))
theorem RowIs.lt {w : World} {g : Nat} {T : TypeId} {arr : Array Value} (h : RowIs w g T arr) : g < w.heap.size := by
  rcases Nat.lt_or_ge g w.heap.size with k | k
  · exact k
  · unfold RowIs at h; simp [Array.getElem?_eq_none k] at h
theorem RowIs.cell {w : World} {g : Nat} {T : TypeId} {arr : Array Value} (h : RowIs w g T arr) (i : Nat) : w.cell? ⟨g, i, none⟩ = arr[i]? := cell_of_row w g i arr T (0, 0) h
theorem RowIs.frozen {w : World} {g : Nat} {T : TypeId} {arr : Array Value} (h : RowIs w g T arr) (i : Nat) : w.frozen? ⟨g, i, none⟩ = false := by
  unfold RowIs at h; simp [World.frozen?, h]
theorem RowIs.set {w : World} {g : Nat} {T : TypeId} {arr : Array Value} (h : RowIs w g T arr) (i : Nat) (v : Value) : RowIs (w.setCell ⟨g, i, none⟩ v) g T (arr.setIfInBounds i v) := heap_setCell_same w g i arr T v h
theorem RowIs.alloc {w : World} {g : Nat} {T : TypeId} {arr : Array Value} (h : RowIs w g T arr) (o : Obj) : RowIs (w.alloc o) g T arr := by
  unfold RowIs; rw [Below.heap_alloc w o g h.lt]; exact h
theorem RowIs.below {w w' : World} {g : Nat} {T : TypeId} {arr : Array Value} (h : RowIs w g T arr) (hb : Below w.heap.size w w') : RowIs w' g T arr := by
  unfold RowIs; rw [hb.block g h.lt]; exact h
theorem RowIs.new (w : World) (T : TypeId) (arr : Array Value) : RowIs (w.alloc (.cells arr T)) w.heap.size T arr := by
  show (w.heap.push _)[w.heap.size]? = _; simp

/-- The five cells of a method. -/
def vals (m : Mt) : Array Value := #[.string m.id, .string m.ty, .string m.pk, .string m.ky, .int .u32 m.em]
/-- One method is laid at place j. -/
def put5 (arr : Array Value) (j : Nat) (m : Mt) : Array Value :=
  ((((arr.setIfInBounds (j * 5) (.string m.id)).setIfInBounds (j * 5 + 1) (.string m.ty)).setIfInBounds (j * 5 + 2) (.string m.pk)).setIfInBounds (j * 5 + 3) (.string m.ky)).setIfInBounds (j * 5 + 4) (.int .u32 m.em)
theorem put5_size (arr : Array Value) (j : Nat) (m : Mt) : (put5 arr j m).size = arr.size := by simp [put5]
theorem put5_other (arr : Array Value) (j : Nat) (m : Mt) (i : Nat) (h : i < j * 5 ∨ j * 5 + 5 ≤ i) : (put5 arr j m)[i]? = arr[i]? := by
  unfold put5
  repeat rw [Array.getElem?_setIfInBounds_ne (by omega)]
theorem put5_at (arr : Array Value) (j : Nat) (m : Mt) (h : j * 5 + 5 ≤ arr.size) :
    (put5 arr j m)[j * 5]? = some (.string m.id) ∧ (put5 arr j m)[j * 5 + 1]? = some (.string m.ty) ∧ (put5 arr j m)[j * 5 + 2]? = some (.string m.pk) ∧ (put5 arr j m)[j * 5 + 3]? = some (.string m.ky) ∧ (put5 arr j m)[j * 5 + 4]? = some (.int .u32 m.em) := by
  unfold put5
  refine ⟨?_, ?_, ?_, ?_, ?_⟩
  · rw [Array.getElem?_setIfInBounds_ne (by omega), Array.getElem?_setIfInBounds_ne (by omega), Array.getElem?_setIfInBounds_ne (by omega), Array.getElem?_setIfInBounds_ne (by omega), Array.getElem?_setIfInBounds_self_of_lt (by omega)]
  · rw [Array.getElem?_setIfInBounds_ne (by omega), Array.getElem?_setIfInBounds_ne (by omega), Array.getElem?_setIfInBounds_ne (by omega), Array.getElem?_setIfInBounds_self_of_lt (by simp; omega)]
  · rw [Array.getElem?_setIfInBounds_ne (by omega), Array.getElem?_setIfInBounds_ne (by omega), Array.getElem?_setIfInBounds_self_of_lt (by simp; omega)]
  · rw [Array.getElem?_setIfInBounds_ne (by omega), Array.getElem?_setIfInBounds_self_of_lt (by simp; omega)]
  · rw [Array.getElem?_setIfInBounds_self_of_lt (by simp; omega)]

/-- The first k methods of ms are laid in the row arr. -/
structure Laid (arr : Array Value) (ms : List Mt) (k : Nat) : Prop where
  size : arr.size = ms.length * 5
  at5 : ∀ i m, i < k → ms[i]? = some m → arr[i * 5]? = some (.string m.id) ∧ arr[i * 5 + 1]? = some (.string m.ty) ∧ arr[i * 5 + 2]? = some (.string m.pk) ∧ arr[i * 5 + 3]? = some (.string m.ky) ∧ arr[i * 5 + 4]? = some (.int .u32 m.em)
theorem Laid.start {arr : Array Value} {ms : List Mt} (h : arr.size = ms.length * 5) : Laid arr ms 0 := ⟨h, fun i m hi => by omega⟩
theorem Laid.step {arr : Array Value} {ms : List Mt} {k : Nat} (h : Laid arr ms k) (hk : k < ms.length) : Laid (put5 arr k ms[k]) ms (k + 1) := by
  refine ⟨by rw [put5_size]; exact h.size, fun i m hi hm => ?_⟩
  have hs := h.size
  rcases Nat.lt_or_ge i k with hik | hik
  · obtain ⟨a, b, c, d, e⟩ := h.at5 i m hik hm
    refine ⟨?_, ?_, ?_, ?_, ?_⟩ <;> (rw [put5_other _ _ _ _ (.inl (by omega))]; assumption)
  · obtain rfl : i = k := by omega
    obtain rfl : ms[i] = m := by rw [List.getElem?_eq_getElem hk] at hm; exact Option.some.inj hm
    exact put5_at arr i ms[i] (by omega)
theorem Laid.there {arr : Array Value} {ms : List Mt} {k : Nat} (h : Laid arr ms k) (hk : k < ms.length) (c : Nat) (hc : c < 5) : ∃ v, arr[k * 5 + c]? = some v := by
  have hs := h.size
  exact ⟨_, Array.getElem?_eq_getElem (by omega)⟩
/-- A slice of methods whose cells lie from block B on. -/
def MsFrom (B : Nat) (w : World) (v : Value) (ms : List Mt) : Prop :=
  ∃ a cap, v = .slice a ms.length cap ∧ ∀ j m, ms[j]? = some m → ∃ b o, a = some ⟨b, o, none⟩ ∧ B ≤ b ∧ At5 w b (o + j * 5) m
theorem MsFrom.ms {B : Nat} {w : World} {v : Value} {ms : List Mt} (h : MsFrom B w v ms) : MsAt w v ms := by
  obtain ⟨a, cap, rfl, hr⟩ := h
  exact ⟨a, cap, rfl, fun j m hj => let ⟨b, o, ha, _, hA⟩ := hr j m hj; ⟨b, o, ha, hA⟩⟩
theorem MsFrom.low {B B' : Nat} {w : World} {v : Value} {ms : List Mt} (h : MsFrom B w v ms) (hB : B' ≤ B) : MsFrom B' w v ms := by
  obtain ⟨a, cap, rfl, hr⟩ := h
  exact ⟨a, cap, rfl, fun j m hj => let ⟨b, o, ha, hb, hA⟩ := hr j m hj; ⟨b, o, ha, Nat.le_trans hB hb, hA⟩⟩
/-- All blocks from B on stand. -/
def KeepsFrom (B : Nat) (w w' : World) : Prop := ∀ b o, B ≤ b → b < w.heap.size → w'.cell? ⟨b, o, none⟩ = w.cell? ⟨b, o, none⟩
theorem MsFrom.keep {B : Nat} {w w' : World} {v : Value} {ms : List Mt} (h : MsFrom B w v ms) (k : KeepsFrom B w w') : MsFrom B w' v ms := by
  obtain ⟨a, cap, rfl, hr⟩ := h
  refine ⟨a, cap, rfl, fun j m hj => ?_⟩
  obtain ⟨b, o, ha, hb, hA⟩ := hr j m hj
  have kc : ∀ o v, w.cell? ⟨b, o, none⟩ = some v → w'.cell? ⟨b, o, none⟩ = some v := fun o v hc => by rw [k b o hb (lt_of_cell hc)]; exact hc
  exact ⟨b, o, ha, hb, kc _ _ hA.c0, kc _ _ hA.c1, kc _ _ hA.c2, kc _ _ hA.c3, kc _ _ hA.c4⟩
theorem Keeps.from {w w' : World} (k : Keeps w w') (B : Nat) : KeepsFrom B w w' := fun b o _ hb => k b o hb
theorem KeepsFrom.set (w : World) {B g : Nat} (i : Nat) (v : Value) (h : g < B) : KeepsFrom B w (w.setCell ⟨g, i, none⟩ v) := fun b o hb _ => by
  have e := Below.heap_setCell w ⟨g, i, none⟩ v b (by show b ≠ g; omega)
  simp only [World.cell?, e]
theorem below5 {w wr : World} {i0 i1 i2 i3 i4 : Nat} {v0 v1 v2 v3 v4 : Value} {c d : Array Value} {S T : TypeId} (h : Below w.heap.size w wr) :
    Below w.heap.size w (((((((wr.setCell ⟨w.heap.size, i0, none⟩ v0).setCell ⟨w.heap.size, i1, none⟩ v1).setCell ⟨w.heap.size, i2, none⟩ v2).setCell ⟨w.heap.size, i3, none⟩ v3).setCell ⟨w.heap.size, i4, none⟩ v4).alloc (.cells c S)).alloc (.cells d T)) := by
  have hs := h.size
  exact (((((((h.setCell (Nat.le_refl _) _).setCell (Nat.le_refl _) _).setCell (Nat.le_refl _) _).setCell (Nat.le_refl _) _).setCell (Nat.le_refl _) _).alloc (by simp [World.setCell]; omega) _).alloc (by simp [World.setCell]; omega) _)

theorem Laid.ms {w : World} {g : Nat} {T : TypeId} {arr : Array Value} {ms : List Mt} (h : Laid arr ms ms.length) (hr : RowIs w g T arr) (cap : Nat) : MsFrom g w (.slice (some ⟨g, 0, none⟩) ms.length cap) ms := by
  refine ⟨_, _, rfl, fun j m hj => ⟨g, 0, rfl, Nat.le_refl _, ?_⟩⟩
  have hlt : j < ms.length := by
    rcases Nat.lt_or_ge j ms.length with k | k
    · exact k
    · rw [List.getElem?_eq_none k] at hj; cases hj
  obtain ⟨a, b, c, d, e⟩ := h.at5 j m hlt hj
  rw [Nat.zero_add]
  exact ⟨(hr.cell _).trans a, (hr.cell _).trans b, (hr.cell _).trans c, (hr.cell _).trans d, (hr.cell _).trans e⟩

theorem make5 (T E : TypeId) (hT : Try.prog.underlying T = some (.slice E)) (hi : (Try.prog.info? E).map (fun i => (i.zero.isSome, i.size, i.bytes)) = some (true, 5, 72)) (n : Nat) (hn : n ≤ 1000000000000) :
    ∃ arr : Array Value, arr.size = n * 5 ∧ ∀ W : World, (Instr.makeSlice T (.int .i64 n) (.int .i64 n)).run Try.prog W = .ok (.slice (some ⟨W.heap.size, 0, none⟩) n n) (W.alloc (.cells arr E)) := by
  cases hq : Try.prog.info? E with
  | none => rw [hq] at hi; cases hi
  | some i =>
    rw [hq] at hi
    simp at hi
    obtain ⟨hz, hs, hb⟩ := hi
    obtain ⟨z, hz⟩ := Option.isSome_iff_exists.1 hz
    refine ⟨madeCells z.cells (n * 5), size_madeCells _ _, fun W => ?_⟩
    have := run_make (P := Try.prog) W T E i z hT hq hz .i64 .i64 n n (by omega) (by omega) (by rw [hb]; omega) (by omega)
    rw [hs] at this
    simpa using this

theorem method_any (m : Mt) (w : World) : Calls Try.prog 11 #[.agg #[.string m.id, .string m.ty, .string m.pk, .string m.ky, .int .u32 m.em]] w fun en w' =>
    en = .returned (.agg #[.string m.id, .string m.ty, .string m.pk, .string m.ky, .int .u32 m.em]) ∧ ∃ c d, w' = (w.alloc (.cells c 41)).alloc (.cells d 38) := by
  go_enter Try.func11, Try.ntmps11
  go_wp2
  exact bodyPost_ret (v := .agg #[.string m.id, .string m.ty, .string m.pk, .string m.ky, .int .u32 m.em]) (by simp [results, Try.results11, go_sem]) rfl ⟨rfl, _, _, rfl⟩

/-- What a function that hands a slice of methods back leaves. -/
def MsPost (ms : List Mt) (w : World) (en : Ending) (w' : World) : Prop := ∃ a c, en = .returned (.slice a ms.length c) ∧ MsFrom w.heap.size w' (.slice a ms.length c) ms ∧ Below w.heap.size w w'

theorem nil_ms {w : World} {ms : List Mt} {l cap : Nat} (h : MsAt w (.slice none l cap) ms) : ms = [] := by
  obtain ⟨a, c, he, hr⟩ := h
  cases ms with
  | nil => rfl
  | cons x t =>
    obtain ⟨b, o, ha, _⟩ := hr 0 x rfl
    simp at he
    rw [ha] at he
    exact absurd he.1 (by simp)

set_option maxRecDepth 100000 in
set_option maxHeartbeats 2000000 in
theorem clone_any (v : Value) (ms : List Mt) (w : World) (h : MsAt w v ms) (hl : ms.length ≤ 1000000000000) :
    Calls Try.prog 7 #[v] w (MsPost ms w) := by
  obtain ⟨arr0, hs0, hmk⟩ := make5 23 41 Try.underlying23 (by kernel_rfl) ms.length hl
  have HS0 := hide hs0; clear hs0
  have heq := fun (W : World) a l c => Lib.run_eql_slice_nil (P := Try.prog) W 23 41 a l c 0 0 Try.underlying23
  have h' := h
  obtain ⟨a, cap, rfl, hr⟩ := h'
  have HR := hide hr; have HH := hide h; clear hr h
  cases a with
  | none =>
    go_enter Try.func7, Try.ntmps7
    go_wp2
    go_ret
    obtain rfl := nil_ms HH.out
    exact ⟨none, 0, rfl, ⟨none, 0, rfl, fun j m hj => by simp at hj⟩, Below.refl _ _⟩
  | some ad =>
    go_enter Try.func7, Try.ntmps7
    go_wp2
    go_loopw [4] (fun jv wr => ∃ (j : Nat) (arr : Array Value), j ≤ ms.length ∧ jv = .int .i64 j ∧ wr = w.alloc (.cells arr 41) ∧ Hid (Laid arr ms j)) (fun jv _ => ms.length - (intOf jv).toNat)
    case atStart => exact ⟨0, arr0, by omega, rfl, rfl, Laid.start HS0.out⟩
    case round =>
      obtain ⟨j, arr, hj, rfl, rfl, HL⟩ := hrel
      by_cases hlt : j < ms.length
      · obtain ⟨b, o, hao, A⟩ := HR.out j ms[j] (by simp [hlt])
        obtain rfl := Option.some.inj hao
        obtain ⟨m, hm⟩ : ∃ m, ms[j] = m := ⟨_, rfl⟩
        have HM := hide hm
        rw [hm] at A
        clear hm
        obtain ⟨a0, a1, a2, a3, a4⟩ := A
        have hb := lt_of_cell a0
        obtain ⟨x0, e0⟩ := HL.out.there hlt 0 (by omega)
        obtain ⟨x1, e1⟩ := HL.out.there hlt 1 (by omega)
        obtain ⟨x2, e2⟩ := HL.out.there hlt 2 (by omega)
        obtain ⟨x3, e3⟩ := HL.out.there hlt 3 (by omega)
        obtain ⟨x4, e4⟩ := HL.out.there hlt 4 (by omega)
        rw [Nat.add_zero] at e0
        go_wp2
        go_roundw
        case rel => exact ⟨j + 1, _, by omega, by go_num, rfl, by have := HL.out.step hlt; rw [HM.out] at this; exact this⟩
        case measure => simp [intOf]; omega
      · obtain rfl : j = ms.length := by omega
        go_wp2
        go_ret
        exact ⟨_, _, rfl, HL.out.ms (RowIs.new _ _ _) _, (Below.refl _ _).alloc (Nat.le_refl _) _⟩

set_option maxRecDepth 100000 in
set_option maxHeartbeats 2000000 in
theorem methods_any (v : Value) (ms : List Mt) (w : World) (h : MsAt w v ms) (hl : ms.length ≤ 1000000000000) :
    Calls Try.prog 10 #[v] w (MsPost ms w) := by
  obtain ⟨arr0, hs0, hmk⟩ := make5 32 38 Try.underlying32 (by kernel_rfl) ms.length hl
  have HS0 := hide hs0; clear hs0
  have heq := fun (W : World) a l c => Lib.run_eql_slice_nil (P := Try.prog) W 23 41 a l c 0 0 Try.underlying23
  have h' := h
  obtain ⟨a, cap, rfl, hr⟩ := h'
  have HR := hide hr; have HH := hide h; clear hr h
  cases a with
  | none =>
    go_enter Try.func10, Try.ntmps10
    go_wp2
    go_ret
    obtain rfl := nil_ms HH.out
    exact ⟨none, 0, rfl, ⟨none, 0, rfl, fun j m hj => by simp at hj⟩, Below.refl _ _⟩
  | some ad =>
    go_enter Try.func10, Try.ntmps10
    go_wp2
    go_loopw [4] (fun jv wr => ∃ (j : Nat) (arr : Array Value), j ≤ ms.length ∧ jv = .int .i64 j ∧ Hid (RowIs wr w.heap.size 38 arr) ∧ Below w.heap.size w wr ∧ Hid (Laid arr ms j)) (fun jv _ => ms.length - (intOf jv).toNat)
    case atStart => exact ⟨0, arr0, by omega, rfl, RowIs.new _ _ _, (Below.refl _ _).alloc (Nat.le_refl _) _, Laid.start HS0.out⟩
    case round =>
      obtain ⟨j, arr, hj, rfl, HW, HB, HL⟩ := hrel
      have HB' := hide HB; clear HB
      by_cases hlt : j < ms.length
      · obtain ⟨b, o, hao, A⟩ := HR.out j ms[j] (by simp [hlt])
        obtain rfl := Option.some.inj hao
        obtain ⟨m, hm⟩ : ∃ m, ms[j] = m := ⟨_, rfl⟩
        have HM := hide hm
        rw [hm] at A
        clear hm
        have A' := A.keep (Keeps.of HB'.out)
        have hb0 := lt_of_cell A.c0
        clear A
        obtain ⟨a0, a1, a2, a3, a4⟩ := A'
        have hb := lt_of_cell a0
        have hg := HW.out.lt
        have hf := HW.out.frozen
        have hc := HW.out.cell
        obtain ⟨x0, e0⟩ := HL.out.there hlt 0 (by omega)
        obtain ⟨x1, e1⟩ := HL.out.there hlt 1 (by omega)
        obtain ⟨x2, e2⟩ := HL.out.there hlt 2 (by omega)
        obtain ⟨x3, e3⟩ := HL.out.there hlt 3 (by omega)
        obtain ⟨x4, e4⟩ := HL.out.there hlt 4 (by omega)
        rw [Nat.add_zero] at e0
        have f0 := (hc (j * 5)).trans e0
        have f1 := (hc (j * 5 + 1)).trans e1
        have f2 := (hc (j * 5 + 2)).trans e2
        have f3 := (hc (j * 5 + 3)).trans e3
        have f4 := (hc (j * 5 + 4)).trans e4
        clear hc e0 e1 e2 e3 e4
        go_wp2_with (go_at_call 11; refine (method_any _ _).mono ?_; rintro en w' ⟨rfl, c, d, rfl⟩)
        go_roundw
        case rel => exact ⟨j + 1, put5 arr j m, by omega, by go_num, ((((((HW.out.set _ _).set _ _).set _ _).set _ _).set _ _).alloc _).alloc _, below5 HB'.out, by have := HL.out.step hlt; rw [HM.out] at this; exact this⟩
        case measure => simp [intOf]; omega
      · obtain rfl : j = ms.length := by omega
        go_wp2
        go_ret
        exact ⟨_, _, rfl, HL.out.ms HW.out _, HB'.out⟩

/-! ### cloneTypes -/
/-- A slice of slices of methods, all of it from block B on. -/
def TsFrom (B : Nat) (w : World) (v : Value) (tss : List (List Mt)) : Prop :=
  ∃ a cap, v = .slice a tss.length cap ∧ ∀ e ms, tss[e]? = some ms → ∃ b o vi, a = some ⟨b, o, none⟩ ∧ B ≤ b ∧ w.cell? ⟨b, o + e, none⟩ = some vi ∧ MsFrom B w vi ms
theorem TsFrom.ts {B : Nat} {w : World} {v : Value} {tss : List (List Mt)} (h : TsFrom B w v tss) : TsAt w v tss := by
  obtain ⟨a, cap, rfl, hr⟩ := h
  exact ⟨a, cap, rfl, fun e ms he => let ⟨b, o, vi, ha, _, hc, hm⟩ := hr e ms he; ⟨b, o, vi, ha, hc, hm.ms⟩⟩
theorem make1 (T E : TypeId) (bytes : Nat) (hb72 : bytes ≤ 72) (hT : Try.prog.underlying T = some (.slice E)) (sz : Nat) (hi : (Try.prog.info? E).map (fun i => (i.zero.isSome, i.size, i.bytes)) = some (true, sz, bytes)) (n : Nat) (hn : n ≤ 1000000000000) :
    ∃ arr : Array Value, arr.size = n * sz ∧ ∀ W : World, (Instr.makeSlice T (.int .i64 n) (.int .i64 n)).run Try.prog W = .ok (.slice (some ⟨W.heap.size, 0, none⟩) n n) (W.alloc (.cells arr E)) := by
  cases hq : Try.prog.info? E with
  | none => rw [hq] at hi; cases hi
  | some i =>
    rw [hq] at hi
    simp at hi
    obtain ⟨hz, hs, hb⟩ := hi
    obtain ⟨z, hz⟩ := Option.isSome_iff_exists.1 hz
    refine ⟨madeCells z.cells (n * sz), size_madeCells _ _, fun W => ?_⟩
    have hmul : (i.bytes : Int) * (n : Int) ≤ 281474976710656 := by
      have : i.bytes * n ≤ 72 * 1000000000000 := Nat.mul_le_mul (by omega) hn
      have h2 : ((i.bytes * n : Nat) : Int) ≤ 72 * 1000000000000 := by omega
      rw [Int.natCast_mul] at h2
      omega
    have := run_make (P := Try.prog) W T E i z hT hq hz .i64 .i64 n n (by omega) (by omega) hmul (by omega)
    rw [hs] at this
    simpa using this
/-- The first k inner slices are laid. -/
structure Laid2 (w : World) (B : Nat) (arr : Array Value) (tss : List (List Mt)) (k : Nat) : Prop where
  size : arr.size = tss.length
  at1 : ∀ i ms, i < k → tss[i]? = some ms → ∃ vi, arr[i]? = some vi ∧ MsFrom B w vi ms
def TsPost (tss : List (List Mt)) (w : World) (en : Ending) (w' : World) : Prop := ∃ a c, en = .returned (.slice a tss.length c) ∧ TsFrom w.heap.size w' (.slice a tss.length c) tss ∧ Below w.heap.size w w'
theorem nil_ts {w : World} {tss : List (List Mt)} {l cap : Nat} (h : TsAt w (.slice none l cap) tss) : tss = [] := by
  obtain ⟨a, c, he, hr⟩ := h
  cases tss with
  | nil => rfl
  | cons x t =>
    obtain ⟨b, o, vi, ha, _⟩ := hr 0 x rfl
    simp at he
    rw [ha] at he
    exact absurd he.1 (by simp)
theorem Laid2.step {w w1 : World} {g : Nat} {arr : Array Value} {tss : List (List Mt)} {k : Nat} {v : Value} (h : Laid2 w (g + 1) arr tss k) (hk : k < tss.length) (hg : g < w.heap.size) (hb : Below w.heap.size w w1) (hm : MsFrom w.heap.size w1 v tss[k]) :
    Laid2 (w1.setCell ⟨g, k, none⟩ v) (g + 1) (arr.setIfInBounds k v) tss (k + 1) := by
  have hs := h.size
  refine ⟨by simpa using hs, fun i ms hi hms => ?_⟩
  rcases Nat.lt_or_ge i k with hik | hik
  · obtain ⟨vi, h1, h2⟩ := h.at1 i ms hik hms
    refine ⟨vi, by rw [Array.getElem?_setIfInBounds_ne (by omega)]; exact h1, ?_⟩
    exact (h2.keep ((Keeps.of hb).from _)).keep (KeepsFrom.set w1 k v (by omega))
  · obtain rfl : i = k := by omega
    obtain rfl : tss[i] = ms := by rw [List.getElem?_eq_getElem hk] at hms; exact Option.some.inj hms
    exact ⟨v, by rw [Array.getElem?_setIfInBounds_self_of_lt (by omega)], (hm.low (by omega)).keep (KeepsFrom.set w1 i v (by omega))⟩
theorem Laid2.ts {w : World} {g : Nat} {T : TypeId} {arr : Array Value} {tss : List (List Mt)} (h : Laid2 w (g + 1) arr tss tss.length) (hr : RowIs w g T arr) (cap : Nat) : TsFrom g w (.slice (some ⟨g, 0, none⟩) tss.length cap) tss := by
  refine ⟨_, _, rfl, fun e ms he => ?_⟩
  have hlt : e < tss.length := by
    rcases Nat.lt_or_ge e tss.length with k | k
    · exact k
    · rw [List.getElem?_eq_none k] at he; cases he
  obtain ⟨vi, h1, h2⟩ := h.at1 e ms hlt he
  exact ⟨g, 0, vi, rfl, Nat.le_refl _, by rw [Nat.zero_add]; exact (hr.cell _).trans h1, h2.low (by omega)⟩

set_option maxRecDepth 100000 in
set_option maxHeartbeats 2000000 in
theorem types_any (v : Value) (tss : List (List Mt)) (w : World) (h : TsAt w v tss) (hl : tss.length ≤ 1000000000000) (hll : ∀ t, t ∈ tss → t.length ≤ 1000000000000) :
    Calls Try.prog 6 #[v] w (TsPost tss w) := by
  obtain ⟨arr0, hs0, hmk⟩ := make1 22 23 24 (by omega) Try.underlying22 1 (by kernel_rfl) tss.length hl
  have HS0 := hide hs0; clear hs0
  have HLL := hide hll; clear hll
  have heq := fun (W : World) a l c => Lib.run_eql_slice_nil (P := Try.prog) W 22 23 a l c 0 0 Try.underlying22
  have h' := h
  obtain ⟨a, cap, rfl, hr⟩ := h'
  have HR := hide hr; have HH := hide h; clear hr h
  cases a with
  | none =>
    go_enter Try.func6, Try.ntmps6
    go_wp2
    go_ret
    obtain rfl := nil_ts HH.out
    exact ⟨none, 0, rfl, ⟨none, 0, rfl, fun j m hj => by simp at hj⟩, Below.refl _ _⟩
  | some ad =>
    go_enter Try.func6, Try.ntmps6
    go_wp2
    go_loopw [4] (fun ev wr => ∃ (e : Nat) (arr : Array Value), e ≤ tss.length ∧ ev = .int .i64 e ∧ Hid (RowIs wr w.heap.size 23 arr) ∧ Hid (Below w.heap.size w wr) ∧ Hid (Laid2 wr (w.heap.size + 1) arr tss e)) (fun ev _ => tss.length - (intOf ev).toNat)
    case atStart => exact ⟨0, arr0, by omega, rfl, RowIs.new _ _ _, (Below.refl _ _).alloc (Nat.le_refl _) _, ⟨by have := HS0.out; omega, fun i ms hi => by omega⟩⟩
    case round =>
      obtain ⟨e, arr, he, rfl, HW, HB, HL⟩ := hrel
      by_cases hlt : e < tss.length
      · obtain ⟨b, o, vi, hao, hc0, hm0⟩ := HR.out e tss[e] (by simp [hlt])
        obtain rfl := Option.some.inj hao
        have hll := HLL.out tss[e] (by simp)
        have hc := (Keeps.of HB.out).cell hc0
        have HM := hide (hm0.keep (Keeps.of HB.out))
        obtain ⟨a', cap', hvi, _⟩ := id HM.out
        subst hvi
        clear hm0 hc0
        have hg := HW.out.lt
        go_wp2_with fail
        refine (clone_any _ _ _ (unhide HM) hll).mono ?_
        rintro en w1 ⟨a2, c2, rfl, hf1, hb1⟩
        have HF1 := hide hf1; have HB1 := hide hb1; clear hf1 hb1
        have HW1 := hide (HW.out.below HB1.out)
        obtain ⟨x, hx⟩ : ∃ x, arr[e]? = some x := ⟨_, Array.getElem?_eq_getElem (by rw [HL.out.size]; exact hlt)⟩
        have f1 := HW1.out.frozen e
        have f2 := (HW1.out.cell e).trans hx
        have hs1 := HB1.out.size
        clear hx
        go_wp2_with fail
        go_roundw
        case rel => exact ⟨e + 1, _, by omega, by go_num, HW1.out.set _ _, (HB.out.trans (HB1.out.mono (by omega))).setCell (Nat.le_refl _) _, HL.out.step hlt hg HB1.out HF1.out⟩
        case measure => simp [intOf]; omega
      · obtain rfl : e = tss.length := by omega
        go_wp2
        go_ret
        exact ⟨_, _, rfl, HL.out.ts HW.out _, HB.out⟩
end Go.Proofs.Qxb6604184a
