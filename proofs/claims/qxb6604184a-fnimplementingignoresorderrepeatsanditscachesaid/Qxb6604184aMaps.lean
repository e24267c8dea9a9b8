import Derived.Test.Qxb6604184aClone
import Derived.MapKept
namespace Go.Proofs.Qxb6604184a
open Go.RowKit
set_option linter.unusedVariables false
set_option linter.unusedSimpArgs false

/-! ### Maps with string keys, as lists -/
abbrev Ents := List (ByteArray × Value)
def find : Ents → ByteArray → Option Value
  | [], _ => none
  | (k', v) :: t, k => if k == k' then some v else find t k
def upd : Ents → ByteArray → Value → Ents
  | [], k, v => [(k, v)]
  | (k', v') :: t, k, v => if k == k' then (k, v) :: t else (k', v') :: upd t k v
def Reads (es : List MapEntry) (l : Ents) : Prop := es.map (fun e => (e.key, e.val)) = l.map (fun p => (Value.string p.1, p.2))
def MapIs (w : World) (r : Nat) (l : Ents) : Prop := ∃ es clock, w.heap[r]? = some (.map es clock) ∧ Reads es.toList l

theorem find_some (k : ByteArray) : ∀ (es : List MapEntry) (l : Ents) (i : Nat) (v : Value), Reads es l → find l k = some v →
    ∃ j, Instr.findNow .string (.string k) es i = some (some (i + j, v)) ∧ j < l.length ∧ (es[j]?).map (·.key) = some (.string k) ∧ ∀ x, upd l k x = l.set j (k, x)
  | [], [], _, _, _, hf => by simp [find] at hf
  | [], _ :: _, _, _, h, _ => by simp [Reads] at h
  | _ :: _, [], _, _, h, _ => by simp [Reads] at h
  | e :: es, (k', v') :: t, i, v, h, hf => by
    simp only [Reads, List.map_cons, List.cons.injEq, Prod.mk.injEq] at h
    obtain ⟨⟨hk, hv⟩, ht⟩ := h
    by_cases hkk : (k == k') = true
    · have e1 : k = k' := (MapKept.bytes_beq k k').1 hkk
      refine ⟨0, ?_, by simp, ?_, fun x => ?_⟩
      · simp only [find, hkk, if_true, Option.some.injEq] at hf
        simp [Instr.findNow, hk, Instr.sameNow, hkk, hv, hf]
      · simp [hk, e1]
      · simp [upd, hkk]
    · have hkf : (k == k') = false := by simpa using hkk
      simp only [find, hkf, Bool.false_eq_true, if_false] at hf
      obtain ⟨j, h1, h2, h3, h4⟩ := find_some k es t (i + 1) v ht hf
      refine ⟨j + 1, ?_, by simp; omega, by simpa using h3, fun x => ?_⟩
      · simp only [Instr.findNow, hk, Instr.sameNow, hkf, h1]
        congr 3; omega
      · simp [upd, hkf, h4]
theorem find_none (k : ByteArray) : ∀ (es : List MapEntry) (l : Ents) (i : Nat), Reads es l → find l k = none →
    Instr.findNow .string (.string k) es i = some none ∧ ∀ x, upd l k x = l ++ [(k, x)]
  | [], [], _, _, hf => ⟨rfl, fun x => rfl⟩
  | [], _ :: _, _, h, _ => by simp [Reads] at h
  | _ :: _, [], _, h, _ => by simp [Reads] at h
  | e :: es, (k', v') :: t, i, h, hf => by
    simp only [Reads, List.map_cons, List.cons.injEq, Prod.mk.injEq] at h
    obtain ⟨⟨hk, hv⟩, ht⟩ := h
    by_cases hkk : (k == k') = true
    · simp [find, hkk] at hf
    · have hkf : (k == k') = false := by simpa using hkk
      simp only [find, hkf, Bool.false_eq_true, if_false] at hf
      obtain ⟨h1, h2⟩ := find_none k es t (i + 1) ht hf
      exact ⟨by simp only [Instr.findNow, hk, Instr.sameNow, hkf, h1], fun x => by simp [upd, hkf, h2]⟩

/-- The look-up's answer. -/
def got (z : Value) (o : Option Value) : Value := match o with | some v => .tuple #[v, .bool true] | none => .tuple #[z, .bool false]
theorem run_look {w : World} {T K E : TypeId} {z : Value} (hT : Try.prog.underlying T = some (.map K E)) (hK : Try.prog.underlying K = some .string) (hz : ∀ W, (zeroValue E).run Try.prog W = .ok z W) {r : Nat} {l : Ents} (h : MapIs w r l) (k : ByteArray) :
    (Instr.lookup T (.map (some r)) (.string k) true).run Try.prog w = .ok (got z (find l k)) w := by
  obtain ⟨es, clock, hb, hr⟩ := h
  have hc : (Instr.checkKey es.isEmpty 10000 K (.string k)).run Try.prog w = .ok () w := MapKept.run_checkKey (k := .string k) hK (by simp [MapKept.IsKey]) es.isEmpty 9999
  cases hf : find l k with
  | none =>
    obtain ⟨h1, _⟩ := find_none k es.toList l 0 hr hf
    simp [Instr.lookup, run_underlying hT, MapKept.run_getObj_map hb, hc, MapKept.run_findKey hK h1, Result.andThen, hz, got]
  | some v =>
    obtain ⟨j, h1, _⟩ := find_some k es.toList l 0 v hr hf
    simp [Instr.lookup, run_underlying hT, MapKept.run_getObj_map hb, hc, MapKept.run_findKey hK h1, Result.andThen, got]

/-- The world behind 'm[k] = v'. -/
def putW (w : World) (r : Nat) (k : ByteArray) (v : Value) : World :=
  match w.heap[r]? with
  | some (.map es clock) =>
    match Instr.findNow .string (.string k) es.toList 0 with
    | some (some (i, _)) => { w with heap := w.heap.setIfInBounds r (.map (es.modify i fun e => { e with key := .string k, val := v }) clock) }
    | _ => { w with heap := w.heap.setIfInBounds r (.map (es.push { key := .string k, val := v, born := clock }) (clock + 1)) }
  | _ => w
theorem run_put {w : World} {T K E : TypeId} (hT : Try.prog.underlying T = some (.map K E)) (hK : Try.prog.underlying K = some .string) {r : Nat} {l : Ents} (h : MapIs w r l) (k : ByteArray) (v : Value) :
    (Instr.mapUpdate T (.map (some r)) (.string k) v).run Try.prog w = .ok () (putW w r k v) := by
  obtain ⟨es, clock, hb, hr⟩ := h
  have hc : (Instr.checkKey false 10000 K (.string k)).run Try.prog w = .ok () w := MapKept.run_checkKey (k := .string k) hK (by simp [MapKept.IsKey]) false 9999
  cases hf : find l k with
  | none =>
    obtain ⟨h1, _⟩ := find_none k es.toList l 0 hr hf
    simp [Instr.mapUpdate, run_underlying hT, MapKept.run_getObj_map hb, hc, MapKept.run_findKey hK h1, MapKept.run_setObj_map _ hb, Result.andThen, putW, hb, h1]
  | some v0 =>
    obtain ⟨j, h1, _, h3, _⟩ := find_some k es.toList l 0 v0 hr hf
    rw [Nat.zero_add] at h1
    have h3' : ((es[j]?).map (·.key)).getD (.string k) = .string k := by
      have : (es[j]?).map (·.key) = some (.string k) := by simpa using h3
      rw [this]; rfl
    have hst := MapKept.run_keyThatStays (P := Try.prog) (w := w) (d := .string) (k := .string k) (by simp [MapKept.IsKey])
    simp [Instr.mapUpdate, run_underlying hT, MapKept.run_getObj_map hb, hc, MapKept.run_findKey hK h1, MapKept.run_setObj_map _ hb, Result.andThen, putW, hb, h1, h3', hst]
theorem put_is {w : World} {r : Nat} {l : Ents} (h : MapIs w r l) (k : ByteArray) (v : Value) :
    MapIs (putW w r k v) r (upd l k v) ∧ (∀ b, b ≠ r → (putW w r k v).heap[b]? = w.heap[b]?) ∧ (putW w r k v).heap.size = w.heap.size ∧ (putW w r k v).os = w.os ∧ (putW w r k v).tape = w.tape ∧ (putW w r k v).output = w.output := by
  obtain ⟨es, clock, hb, hr⟩ := h
  cases hf : find l k with
  | none =>
    obtain ⟨h1, h2⟩ := find_none k es.toList l 0 hr hf
    simp only [putW, hb, h1]
    refine ⟨⟨_, _, (MapKept.heap_set hb).1, ?_⟩, (MapKept.heap_set hb).2, by simp, (by first | rfl | trivial), (by first | rfl | trivial), (by first | rfl | trivial)⟩
    unfold Reads at hr ⊢
    rw [h2 v]
    simp [hr]
  | some v0 =>
    obtain ⟨j, h1, hj, h3, h4⟩ := find_some k es.toList l 0 v0 hr hf
    rw [Nat.zero_add] at h1
    simp only [putW, hb, h1]
    refine ⟨⟨_, _, (MapKept.heap_set hb).1, ?_⟩, (MapKept.heap_set hb).2, by simp, (by first | rfl | trivial), (by first | rfl | trivial), (by first | rfl | trivial)⟩
    unfold Reads at hr ⊢
    rw [h4 v]
    apply List.ext_getElem?
    intro i
    have hi := congrArg (fun q => q[i]?) hr
    simp only [List.getElem?_map] at hi
    by_cases e : i = j
    · subst e
      have hes : i < es.size := by
        rcases Nat.lt_or_ge i es.size with q | q
        · exact q
        · simp [Array.getElem?_eq_none q] at h3
      simp [Array.getElem?_modify, List.getElem?_set, hj, hes]
    · simp only [List.getElem?_map, Array.getElem?_toList, Array.getElem?_modify, List.getElem?_set]
      rw [if_neg (by omega), if_neg (by omega)]
      simpa using hi
theorem put_below {w w0 : World} {B r : Nat} {l : Ents} (hb : Below B w0 w) (h : MapIs w r l) (hr : B ≤ r) (k : ByteArray) (v : Value) : Below B w0 (putW w r k v) := by
  obtain ⟨_, h2, h3, h4, h5, h6⟩ := put_is h k v
  exact hb.trans ⟨h4, h5, h6, by omega, fun i hi => h2 i (by omega)⟩

/-! ### What the lists say -/
theorem find_upd (l : Ents) (k k' : ByteArray) (v : Value) : find (upd l k v) k' = if k' == k then some v else find l k' := by
  induction l with
  | nil => simp [upd, find]
  | cons p t ih =>
    obtain ⟨q, x⟩ := p
    by_cases h : (k == q) = true
    · have e := (MapKept.bytes_beq k q).1 h
      subst e
      simp only [upd, h, if_true, find]
      split <;> rfl
    · have hf : (k == q) = false := by simpa using h
      simp only [upd, hf, Bool.false_eq_true, if_false, find, ih]
      by_cases h2 : (k' == q) = true
      · have e := (MapKept.bytes_beq k' q).1 h2
        subst e
        have hf' : (k' == k) = false := by
          rw [Bool.eq_false_iff]
          intro hh
          have := (MapKept.bytes_beq k' k).1 hh
          subst this
          rw [h2] at hf; cases hf
        simp [h2, hf']
      · have h2f : (k' == q) = false := by simpa using h2
        simp [h2f]
theorem len_upd (l : Ents) (k : ByteArray) (v : Value) : (upd l k v).length = if (find l k).isSome then l.length else l.length + 1 := by
  induction l with
  | nil => simp [upd, find]
  | cons p t ih =>
    obtain ⟨q, x⟩ := p
    by_cases h : (k == q) = true
    · simp [upd, find, h]
    · have hf : (k == q) = false := by simpa using h
      simp only [upd, hf, Bool.false_eq_true, if_false, find, List.length_cons, ih]
      split <;> rfl
end Go.Proofs.Qxb6604184a
