import Derived.Test.Qxb6604184aBuild
import Derived.Test.Qxb6604184aShelf
namespace Go.Proofs.Qxb6604184a
open Go.RowKit
set_option linter.unusedVariables false
set_option linter.unusedSimpArgs false

/-! ### strings.Builder at this program (the shelf's proofs, turned to these numbers) -/
theorem sizeB : (Try.prog.info? 69).map (·.size) = some 2 := by kernel_rfl
theorem liesB : liesAt Try.prog Try.prog.depth 69 (2 / Try.prog.cellsOf 69) 0 69 1 = true := by kernel_rfl

/-- What the conversion to an untyped pointer and back does at this program's Builder. -/
theorem keyU (b : Nat) (w : World) : Sem.run Try.prog (convert 66 76 (.pointer (some ⟨b, 0, none⟩))) w =
    Sem.run Try.prog (Conv.seenAt ⟨b, 0, none⟩ >>= fun s => cellsIn s.block >>= fun o => sizeOf 69 >>= fun z =>
      if (decide (z = 0) || o.elim false fun c => decide (c ≤ s.off) && s.spot.isNone) = true then newObj (.view s 69) >>= fun q => pure (.pointer (some ⟨q, 0, none⟩)) else pure (.pointer (some s))) w := by
  kernel_rfl
theorem toU (b : Nat) (w : World) (hsh : w.shape? b = some (69, 2)) : (convert 66 76 (.pointer (some ⟨b, 0, none⟩))).run Try.prog w = .ok (.pointer (some ⟨b, 0, none⟩)) w := by
  obtain ⟨j, hj, hjs⟩ := Option.map_eq_some_iff.1 sizeB
  rw [keyU]
  simp [Conv.seenAt, viewAt, cellsIn, hsh, sizeOf, typeInfo, hj, hjs]
set_option maxRecDepth 100000 in
theorem keyF (b : Nat) : ∃ rest : Addr → Sem Value, ∀ w : World, Sem.run Try.prog (convert 76 66 (.pointer (some ⟨b, 0, none⟩))) w =
    Sem.run Try.prog (Conv.seenAt ⟨b, 0, none⟩ >>= fun s => sizeOf 69 >>= fun z => variablesAt s 69 1 >>= fun v =>
      if (decide (z = 0) || v) = true then pure (.pointer (some s)) else rest s) w :=
  ⟨_, fun w => rfl⟩
theorem fromU (b : Nat) (w : World) (hsh : w.shape? b = some (69, 2)) : (convert 76 66 (.pointer (some ⟨b, 0, none⟩))).run Try.prog w = .ok (.pointer (some ⟨b, 0, none⟩)) w := by
  obtain ⟨j, hj, hjs⟩ := Option.map_eq_some_iff.1 sizeB
  obtain ⟨rest, hr⟩ := keyF b
  rw [hr]
  simp [Conv.seenAt, viewAt, hsh, variablesAt, liesB, sizeOf, typeInfo, hj]

set_option maxHeartbeats 1000000 in
set_option maxRecDepth 100000 in
theorem check_used (b : Nat) (w : World) (h0 : w.cell? ⟨b, 0, none⟩ = some (.pointer (some ⟨b, 0, none⟩))) :
    Calls Try.prog 24 #[.pointer (some ⟨b, 0, none⟩)] w fun e w' => e = .returned (.tuple #[]) ∧ w' = w := by
  obtain ⟨j, hj, _⟩ := Option.map_eq_some_iff.1 sizeB
  go_enter Try.func24, Try.ntmps24
  go_wp2
  rw [Lib.run_neq_ptr_same w _ Try.underlying66 hj]
  go_wp2
  go_end0
  exact ⟨rfl, rfl⟩

set_option maxHeartbeats 1000000 in
set_option maxRecDepth 100000 in
theorem check_fresh (b : Nat) (w : World) (h0 : w.cell? ⟨b, 0, none⟩ = some (.pointer none)) (hsh : w.shape? b = some (69, 2)) (hfz : w.frozen? ⟨b, 0, none⟩ = false) :
    Calls Try.prog 24 #[.pointer (some ⟨b, 0, none⟩)] w fun e w' => e = .returned (.tuple #[]) ∧ w' = w.setCell ⟨b, 0, none⟩ (.pointer (some ⟨b, 0, none⟩)) := by
  obtain ⟨j, hj, hjs⟩ := Option.map_eq_some_iff.1 sizeB
  go_enter Try.func24, Try.ntmps24
  go_wp2
  rw [toU b w hsh]
  simp only [Result.andThen]
  rw [Oper.upon_value]
  go_wp2
  rw [run_callFunc_extern Try.func25 (by kernel_rfl) (by kernel_rfl) (by kernel_rfl) (e := Extern.AbiNoEscape.same) (by kernel_rfl)]
  rw [Lib.run_noEscape]
  simp only [Result.andThen]
  rw [Oper.upon_value]
  go_wp2
  rw [fromU b w hsh]
  simp only [Result.andThen]
  rw [Oper.upon_value]
  go_wp2
  go_end0
  exact ⟨rfl, rfl⟩

theorem check_any (B b : Nat) (bs : List Value) (w : World) (h : Lib.IsBuilder 69 5 B b bs w) :
    Calls Try.prog 24 #[.pointer (some ⟨b, 0, none⟩)] w fun e w' => e = .returned (.tuple #[]) ∧ (Lib.BuilderAt 69 5 B b (.pointer (some ⟨b, 0, none⟩)) bs w' ∧ Below B w w') := by
  rcases h with h | h
  · refine (check_fresh b w h.cell0 h.shape h.frozen0).mono ?_
    rintro e w' ⟨rfl, rfl⟩
    exact ⟨rfl, h.used _, (Below.refl B w).setCell (p := ⟨b, 0, none⟩) h.1 _⟩
  · refine (check_used b w h.cell0).mono ?_
    rintro e w' ⟨rfl, rfl⟩
    exact ⟨rfl, h, Below.refl B _⟩

set_option maxHeartbeats 2000000 in
set_option maxRecDepth 100000 in
theorem write_any (B b : Nat) (bs : List Value) (s : ByteArray) (w : World) (h : Lib.IsBuilder 69 5 B b bs w) (hlen : bs.length + s.size ≤ 140737488355328) (hBw : B ≤ w.heap.size) :
    Calls Try.prog 22 #[.pointer (some ⟨b, 0, none⟩), .string s] w fun e w' => e = .returned (.tuple #[.int .i64 s.size, .nilIface]) ∧ (Lib.BuilderAt 69 5 B b (.pointer (some ⟨b, 0, none⟩)) (bs ++ Lib.strCells s) w' ∧ Below B w w') := by
  obtain ⟨i0, hi, hz0, hz1, hz2⟩ := info_parts Try.Builder_Extra_169.infoByte
  go_enter Try.func22, Try.ntmps22
  go_wp2_with (go_at_call 24; refine (check_any B b bs _ h).mono ?_)
  rintro e w1 ⟨rfl, h1, hb1⟩
  obtain ⟨hB, v, hbk, hown, hne⟩ := h1
  have c0 : w1.cell? ⟨b, 0, none⟩ = some (.pointer (some ⟨b, 0, none⟩)) := by rw [Lib.cell_of_heap hbk]; rfl
  have c1 : w1.cell? ⟨b, 1, none⟩ = some v := by rw [Lib.cell_of_heap hbk]; rfl
  go_wp2_with (at_builtin; refine Lib.wpList_append_own_string _ rfl _ _ 67 9 rfl B 5 i0 Try.underlying67 Try.underlying9 hi hz0 hz1 hz2 _ _ _ rfl hown s rfl ?c3 ?c4 ?c5 ?_)
  case c3 => unfold maxLen; omega
  case c4 => omega
  case c5 => have := hb1.size; omega
  intro v' w2 hown' hgrow _
  have hlt : b < w1.heap.size := by
    rcases Nat.lt_or_ge b w1.heap.size with h' | h'
    · exact h'
    · simp [Array.getElem?_eq_none h'] at hbk
  have hb2 : w2.heap[b]? = some (.cells #[.pointer (some ⟨b, 0, none⟩), v] 69 (0, 0)) := by
    rw [hgrow.block b hlt (fun e => hne e.symm)]
    exact hbk
  have d0 : w2.cell? ⟨b, 0, none⟩ = some (.pointer (some ⟨b, 0, none⟩)) := by rw [Lib.cell_of_heap hb2]; rfl
  have d1 : w2.cell? ⟨b, 1, none⟩ = some v := by rw [Lib.cell_of_heap hb2]; rfl
  have f1 : w2.frozen? ⟨b, 1, none⟩ = false := Lib.frozen_of_heap hb2 1
  obtain ⟨ao, n', cap, rfl⟩ : ∃ ao n' cap, v' = .slice ao n' cap := by
    rcases hown'.2 with ⟨hv, _⟩ | ⟨g, cap, cur, hv, _⟩
    · exact ⟨_, _, _, hv⟩
    · exact ⟨_, _, _, hv⟩
  go_wp2
  go_ret2
  refine ⟨rfl, ?_, ?_⟩
  · exact Lib.BuilderAt.put (T := 69) (e := 5) hB hb2 (bs' := bs ++ Lib.strCells s) (by simpa [Lib.strCells_length] using hown') (by decide)
  · exact (hb1.grown hgrow (by have := hb1.size; omega) (fun k hk => (hown.lt k hk).1)).setCell (p := ⟨b, 1, none⟩) hB _

/-- The key: every ID and type, each ended by a zero byte. -/
def keyL : List Mt → List UInt8
  | [] => []
  | m :: t => m.id.data.toList ++ 0 :: (m.ty.data.toList ++ 0 :: keyL t)
theorem keyL_snoc (l : List Mt) (m : Mt) : keyL (l ++ [m]) = keyL l ++ (m.id.data.toList ++ 0 :: (m.ty.data.toList ++ [0])) := by
  induction l with
  | nil => simp [keyL]
  | cons x t ih => simp [keyL, ih]
theorem keyL_take {l : List Mt} {k : Nat} (h : k < l.length) : keyL (l.take (k + 1)) = keyL (l.take k) ++ (l[k].id.data.toList ++ 0 :: (l[k].ty.data.toList ++ [0])) := by
  rw [List.take_succ_eq_append_getElem h, keyL_snoc]
theorem keyL_len (l : List Mt) : (keyL l).length = sumI l + 2 * l.length := by
  induction l with
  | nil => rfl
  | cons x t ih =>
    have h1 : x.id.data.toList.length = x.id.size := by simp
    have h2 : x.ty.data.toList.length = x.ty.size := by simp
    simp only [keyL, sumI, List.length_append, List.length_cons, ih, h1, h2]
    omega

theorem sumI_mem {m : Mt} {l : List Mt} (h : m ∈ l) : m.id.size + m.ty.size ≤ sumI l := by
  induction l with
  | nil => simp at h
  | cons x t ih =>
    simp only [sumI]
    rcases List.mem_cons.1 h with rfl | h
    · omega
    · have := ih h; omega
theorem BAlloc {T e B b : Nat} {c0 : Value} {bs : List Value} {w : World} (h : Lib.BuilderAt T e B b c0 bs w) (x : Obj) : Lib.BuilderAt T e B b c0 bs (w.alloc x) := by
  obtain ⟨hB, v, hbk, hown, hne⟩ := h
  refine ⟨hB, v, ?_, hown.alloc _, hne⟩
  rw [Lib.alloc_old w x b (by
    rcases Nat.lt_or_ge b w.heap.size with h' | h'
    · exact h'
    · simp [Array.getElem?_eq_none h'] at hbk)]
  exact hbk
theorem IBAlloc {T e B b : Nat} {bs : List Value} {w : World} (h : Lib.IsBuilder T e B b bs w) (x : Obj) : Lib.IsBuilder T e B b bs (w.alloc x) := by
  rcases h with h | h
  · exact Or.inl (BAlloc h x)
  · exact Or.inr (BAlloc h x)
theorem World.le_alloc (w : World) (o : Obj) : w.heap.size ≤ (w.alloc o).heap.size := by simp
theorem sumI_le (l : List Mt) (k : Nat) : sumI (l.take k) ≤ sumI l := by
  induction l generalizing k with
  | nil => simp
  | cons x t ih =>
    cases k with
    | zero => simp [sumI]
    | succ k => simp only [List.take_succ_cons, sumI]; have := ih k; omega
theorem mcat (a b : ByteArray) : (a ++ ⟨#[0]⟩ ++ b ++ ⟨#[0]⟩ : ByteArray).data.toList = a.data.toList ++ 0 :: (b.data.toList ++ [0]) := by
  simp [ByteArray.data_append]

theorem write_m {B b j : Nat} {m : Mt} {ms : List Mt} {w wr : World} (hI : Lib.IsBuilder 69 5 B b (Lib.byteCells (keyL (ms.take j))) wr) (hB : Below B w wr)
    (hk : keyL (ms.take (j + 1)) = keyL (ms.take j) ++ (m.id.data.toList ++ 0 :: (m.ty.data.toList ++ [0]))) (c : Array Value)
    (hl : ms.length ≤ 1000000000) (hs : sumI ms ≤ 1000000000) (hm : m.id.size + m.ty.size ≤ 1000000000) (hBw : B ≤ w.heap.size) :
    Calls Try.prog 22 #[.pointer (some ⟨b, 0, none⟩), .string (m.id ++ ⟨#[0]⟩ ++ m.ty ++ ⟨#[0]⟩)] (wr.alloc (.cells c 38)) fun e w' =>
      e = .returned (.tuple #[.int .i64 (m.id ++ ⟨#[0]⟩ ++ m.ty ++ ⟨#[0]⟩ : ByteArray).size, .nilIface]) ∧
        (Hid (Lib.IsBuilder 69 5 B b (Lib.byteCells (keyL (ms.take (j + 1)))) w') ∧ Hid (Below B w w')) := by
  have hsz : (keyL (ms.take j)).length ≤ 4000000000 := by
    rw [keyL_len, List.length_take]
    have := sumI_le ms j
    omega
  have h := write_any B b (Lib.byteCells (keyL (ms.take j))) (m.id ++ ⟨#[0]⟩ ++ m.ty ++ ⟨#[0]⟩) _ (IBAlloc hI (.cells c 38)) (by
    rw [Lib.byteCells_length, ByteArray.size_append, ByteArray.size_append, ByteArray.size_append]
    have e1 : (⟨#[0]⟩ : ByteArray).size = 1 := rfl
    omega) (Nat.le_trans hBw (Nat.le_trans hB.size (World.le_alloc _ _)))
  refine h.mono ?_
  rintro e w1 ⟨rfl, h1, hb1⟩
  rw [Lib.strCells_eq, mcat, ← Lib.byteCells_append, ← hk] at h1
  exact ⟨rfl, hide (Or.inr h1), hide ((hB.alloc (Nat.le_trans hBw hB.size) _).trans hb1)⟩

set_option maxHeartbeats 400000 in
set_option maxRecDepth 100000 in
theorem key_any (v : Value) (ms : List Mt) (w : World) (h : MsAt w v ms) (hl : ms.length ≤ 1000000000) (hs : sumI ms ≤ 1000000000) :
    Calls Try.prog 21 #[v] w fun en w' => en = .returned (.string ⟨(keyL ms).toArray⟩) ∧ Below w.heap.size w w' := by
  obtain ⟨a, cap, rfl, hr⟩ := h
  have HR := hide hr; clear hr
  go_enter Try.func21, Try.ntmps21
  go_wp2
  go_loopw [8] (fun jv wr => ∃ j : Nat, j ≤ ms.length ∧ jv = .int .i64 j ∧ Hid (Lib.IsBuilder 69 5 w.heap.size w.heap.size (Lib.byteCells (keyL (ms.take j))) wr) ∧ Hid (Below w.heap.size w wr)) (fun jv _ => ms.length - (intOf jv).toNat)
  case atStart => exact ⟨0, by omega, rfl, hide (by simpa [keyL, Lib.byteCells] using Lib.fresh_isBuilder 69 5 w), hide <| (Below.refl _ _).alloc (Nat.le_refl _) _⟩
  case round =>
    obtain ⟨j, hj, rfl, HI, HB⟩ := hrel
    by_cases hlt : j < ms.length
    · obtain ⟨b, o, rfl, A⟩ := HR.out j ms[j] (by simp [hlt])
      have hk := keyL_take hlt
      obtain ⟨m, hm⟩ : ∃ m, ms[j] = m := ⟨_, rfl⟩
      rw [hm] at A hk
      have HK := hide hk
      have hmm := sumI_mem (List.getElem_mem hlt)
      rw [hm] at hmm
      have hmz : m.id.size ≤ 1000000000 ∧ m.ty.size ≤ 1000000000 := by omega
      clear hm hk
      obtain ⟨z1, z2⟩ := hmz
      have A' := A.keep (Keeps.of HB.out)
      clear A
      obtain ⟨a0, a1, a2, a3, a4⟩ := A'
      have hb := lt_of_cell a0
      have hcall := write_m HI.out HB.out HK.out #[Value.string m.id, Value.string m.ty, Value.string m.pk, Value.string m.ky, Value.int IntKind.u32 m.em] hl hs (by omega) (Nat.le_refl _)
      go_wp2_with fail
      refine Calls.mono hcall ?_
      clear hcall
      rintro e w1 ⟨rfl, HI1, HB1⟩
      go_wp2
      go_roundw
      case rel => exact ⟨j + 1, by omega, by go_num, HI1, HB1⟩
      case measure => simp [intOf]; omega
    · obtain rfl : j = ms.length := by omega
      rw [List.take_length] at HI
      go_wp2_with fail
      refine (Try.Builder_String_any w.heap.size w.heap.size (keyL ms) wr HI.out HB.out.size).mono ?_
      rintro e w1 ⟨rfl, hb1⟩
      have HB1 := hide (HB.out.trans hb1)
      clear hb1
      go_wp2
      go_ret
      exact ⟨rfl, HB1.out⟩
end Go.Proofs.Qxb6604184a
