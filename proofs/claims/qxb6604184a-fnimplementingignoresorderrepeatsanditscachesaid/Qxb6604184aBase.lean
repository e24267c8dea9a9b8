import Derived.Test.Qxb6604184aRows
import Derived.WalkKit
import Derived.WalkSpells
import Derived.WalkLawsBesides
import Derived.Deep.QuietTactic
import Derived.BigQuiet
import Derived.RowKit3
import Derived.Deep.RegionWith
import Derived.Deep.DeepCutAuto
import Derived.Deep.Light
namespace Go.Proofs.Qxb6604184a
open Go.RowKit
set_option linter.unusedVariables false

theorem hide {p : Prop} (h : p) : Hid p := h
theorem unhide {p : Prop} (h : Hid p) : p := h
theorem ret_int {k : IntKind} {a b : Int} (h : a = b) : Ending.returned (.int k a) = .returned (.int k b) := by rw [h]
theorem ret_bool {a b : Bool} (h : a = b) : Ending.returned (.bool a) = .returned (.bool b) := by rw [h]
theorem int_eq {k : IntKind} {a b : Int} (h : a = b) : Value.int k a = .int k b := by rw [h]

/-- A method's five parts. -/
structure Mt where
  id : ByteArray
  ty : ByteArray
  pk : ByteArray
  ky : ByteArray
  em : Int

/-- Five cells that hold a method. -/
structure At5 (w : World) (b o : Nat) (m : Mt) : Prop where
  c0 : w.cell? ⟨b, o, none⟩ = some (.string m.id)
  c1 : w.cell? ⟨b, o + 1, none⟩ = some (.string m.ty)
  c2 : w.cell? ⟨b, o + 2, none⟩ = some (.string m.pk)
  c3 : w.cell? ⟨b, o + 3, none⟩ = some (.string m.ky)
  c4 : w.cell? ⟨b, o + 4, none⟩ = some (.int .u32 m.em)

/-- A slice of methods. -/
def MsAt (w : World) (v : Value) (ms : List Mt) : Prop :=
  ∃ a cap, v = .slice a ms.length cap ∧ ∀ j m, ms[j]? = some m → ∃ b o, a = some ⟨b, o, none⟩ ∧ At5 w b (o + j * 5) m

/-- A slice of slices of methods. -/
def TsAt (w : World) (v : Value) (tss : List (List Mt)) : Prop :=
  ∃ a cap, v = .slice a tss.length cap ∧ ∀ e ms, tss[e]? = some ms → ∃ b o vi, a = some ⟨b, o, none⟩ ∧ w.cell? ⟨b, o + e, none⟩ = some vi ∧ MsAt w vi ms

/-- The old blocks stand. -/
def Keeps (w w' : World) : Prop := ∀ b o, b < w.heap.size → w'.cell? ⟨b, o, none⟩ = w.cell? ⟨b, o, none⟩
theorem lt_of_cell {w : World} {b o : Nat} {v : Value} (h : w.cell? ⟨b, o, none⟩ = some v) : b < w.heap.size := by
  rcases Nat.lt_or_ge b w.heap.size with k | k
  · exact k
  · simp [World.cell?, Array.getElem?_eq_none k] at h
theorem Keeps.of {w w' : World} (h : Below w.heap.size w w') : Keeps w w' := fun b o hb => h.cell (p := ⟨b, o, none⟩) hb
theorem Keeps.cell {w w' : World} (h : Keeps w w') {b o : Nat} {v : Value} (hc : w.cell? ⟨b, o, none⟩ = some v) : w'.cell? ⟨b, o, none⟩ = some v := by
  rw [h b o (lt_of_cell hc)]; exact hc
theorem At5.keep {w w' : World} {b o : Nat} {m : Mt} (h : At5 w b o m) (k : Keeps w w') : At5 w' b o m :=
  ⟨k.cell h.c0, k.cell h.c1, k.cell h.c2, k.cell h.c3, k.cell h.c4⟩
theorem MsAt.keep {w w' : World} {v : Value} {ms : List Mt} (h : MsAt w v ms) (k : Keeps w w') : MsAt w' v ms := by
  obtain ⟨a, cap, rfl, hr⟩ := h
  exact ⟨a, cap, rfl, fun j m hj => let ⟨b, o, ha, hA⟩ := hr j m hj; ⟨b, o, ha, hA.keep k⟩⟩
theorem TsAt.keep {w w' : World} {v : Value} {tss : List (List Mt)} (h : TsAt w v tss) (k : Keeps w w') : TsAt w' v tss := by
  obtain ⟨a, cap, rfl, hr⟩ := h
  exact ⟨a, cap, rfl, fun e ms he => let ⟨b, o, vi, ha, hc, hm⟩ := hr e ms he; ⟨b, o, vi, ha, k.cell hc, hm.keep k⟩⟩

/-! ### lastWith -/
def ideq (a b : ByteArray) : Bool := a.toList == b.toList
/-- lastWith behind j rounds. -/
def lastTo (ms : List Mt) (id : ByteArray) : Nat → Int
  | 0 => -1
  | j + 1 => match ms[j]? with
    | some m => if ideq m.id id then (j : Int) else lastTo ms id j
    | none => lastTo ms id j
theorem lastTo_yes {ms : List Mt} {id : ByteArray} {j : Nat} (h : j < ms.length) (he : (ms[j].id.toList == id.toList) = true) : (j : Int) = lastTo ms id (j + 1) := by
  simp [lastTo, h, ideq, he]
theorem lastTo_no {ms : List Mt} {id : ByteArray} {j : Nat} (h : j < ms.length) (he : (ms[j].id.toList == id.toList) = false) : lastTo ms id j = lastTo ms id (j + 1) := by
  simp [lastTo, h, ideq, he]
theorem lastTo_bd (ms : List Mt) (id : ByteArray) : ∀ j, -1 ≤ lastTo ms id j ∧ lastTo ms id j < j
  | 0 => by simp [lastTo]
  | j + 1 => by
    have ih := lastTo_bd ms id j
    unfold lastTo
    split
    · split <;> omega
    · omega

set_option maxRecDepth 100000 in
set_option maxHeartbeats 1000000 in
theorem last_any (v : Value) (ms : List Mt) (id : ByteArray) (w : World) (h : MsAt w v ms) (hl : ms.length ≤ 140737488355328) :
    Calls Try.prog 20 #[v, .string id] w fun en w' => en = .returned (.int .i64 (lastTo ms id ms.length)) ∧ w = w' := by
  obtain ⟨a, cap, rfl, hr⟩ := h
  have HR := hide hr; clear hr
  go_enter Try.func20, Try.ntmps20
  go_wp2
  go_loop [5, 6] (fun kv jv => ∃ (j : Nat) (k : Int), j ≤ ms.length ∧ jv = .int .i64 j ∧ kv = .int .i64 k ∧ Hid (k = lastTo ms id j)) (fun _ jv => ms.length - (intOf jv).toNat)
  case atStart => exact ⟨0, -1, by omega, rfl, rfl, rfl⟩
  case round =>
    obtain ⟨j, k, hj, rfl, rfl, HK⟩ := hrel
    by_cases hlt : j < ms.length
    · obtain ⟨b, o, rfl, A⟩ := HR.out j ms[j] (by simp [hlt])
      have a0 := A.c0
      clear A
      go_wp2
      · go_round
        case rel => exact ⟨j + 1, _, by omega, by go_num, rfl, lastTo_yes hlt ‹_›⟩
        case measure => simp [intOf]; omega
      · go_round
        case rel => exact ⟨j + 1, _, by omega, by go_num, rfl, HK.out.trans (lastTo_no hlt ‹_›)⟩
        case measure => simp [intOf]; omega
    · obtain rfl : j = ms.length := by omega
      go_wp2
      go_ret
      exact ⟨ret_int HK.out, rfl⟩

/-! ### The sizes: only that they come back -/
def SomeInt (w : World) (en : Ending) (w' : World) : Prop := ∃ r : Int, en = .returned (.int .i64 r) ∧ w = w'
theorem add_any (n k : Int) (w : World) : Calls Try.prog 17 #[.int .i64 n, .int .i64 k] w (SomeInt w) := by
  go_enter Try.func17, Try.ntmps17
  go_wp2
  all_goals (go_ret; exact ⟨_, rfl, rfl⟩)

set_option maxRecDepth 100000 in
set_option maxHeartbeats 2000000 in
theorem meths_any (n : Int) (v : Value) (ms : List Mt) (w : World) (h : MsAt w v ms) (hl : ms.length ≤ 140737488355328) :
    Calls Try.prog 16 #[.int .i64 n, v] w (SomeInt w) := by
  obtain ⟨a, cap, rfl, hr⟩ := h
  have HR := hide hr; clear hr
  go_enter Try.func16, Try.ntmps16
  go_wp2_with (go_at_call 17; refine (add_any _ _ _).mono ?_; rintro en w' ⟨r, rfl, rfl⟩)
  go_loop [0, 5] (fun nv jv => ∃ (j : Nat) (n : Int), j ≤ ms.length ∧ jv = .int .i64 j ∧ nv = .int .i64 n) (fun _ jv => ms.length - (intOf jv).toNat)
  case atStart => exact ⟨0, _, by omega, rfl, rfl⟩
  case round =>
    obtain ⟨j, n, hj, rfl, rfl⟩ := hrel
    by_cases hlt : j < ms.length
    · obtain ⟨b, o, rfl, A⟩ := HR.out j ms[j] (by simp [hlt])
      obtain ⟨a0, a1, a2, a3, a4⟩ := A
      by_cases hn : n ≤ 1048576
      · go_wp2_with (go_at_call 17; refine (add_any _ _ _).mono ?_; rintro en w' ⟨r, rfl, rfl⟩)
        go_round
        case rel => exact ⟨j + 1, _, by omega, by go_num, rfl⟩
        case measure => simp [intOf]; omega
      · go_wp2
        go_ret
        exact ⟨_, rfl, rfl⟩
    · go_wp2
      go_ret
      exact ⟨_, rfl, rfl⟩
end Go.Proofs.Qxb6604184a
