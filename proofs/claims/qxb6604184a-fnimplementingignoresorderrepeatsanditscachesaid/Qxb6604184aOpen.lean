import Derived.Test.Qxb6604184aBase
import Derived.ProofKit
import Derived.Deep.Slices
namespace Go.Proofs.Qxb6604184a
open Go.RowKit Go.Deep
set_option linter.unusedVariables false
set_option linter.unusedSimpArgs false

theorem cells9 : Try.prog.cellsOf 9 = 1 := by kernel_rfl
theorem cells36 : Try.prog.cellsOf 36 = 1 := by kernel_rfl
theorem cells41 : Try.prog.cellsOf 41 = 5 := by kernel_rfl
theorem cells23 : Try.prog.cellsOf 23 = 1 := by kernel_rfl

theorem list5 {α : Type} {l : List α} (h : l.length = 5) : ∃ a b c d e, l = [a, b, c, d, e] := by
  match l, h with
  | [a, b, c, d, e], _ => exact ⟨a, b, c, d, e, rfl⟩
theorem open_mt {H : Type} {enc : TypeId × Value → H} {w : World} {base : Nat} {spare : Nat → Bool} {held : Bool} {fuel : Nat} {cs : List Value} {x : DataW H × List MemPlace}
    (h : DataW.trod enc Try.prog w base spare held fuel 41 cs = some x) : ∃ m : Mt, cs = [.string m.id, .string m.ty, .string m.pk, .string m.ky, .int .u32 m.em] := by
  obtain ⟨xs, n, _, rfl, hl, hlen, hf⟩ := DataW.trod_struct Try.underlying41 h
  rw [cells41] at hl
  have hlen' : xs.length = 5 := hlen
  clear hlen
  obtain ⟨c0, c1, c2, c3, c4, rfl⟩ := list5 hl
  obtain ⟨y0, y1, y2, y3, y4, rfl⟩ := list5 hlen'
  have e0 := hf 0 _ rfl
  have e1 := hf 1 _ rfl
  have e2 := hf 2 _ rfl
  have e3 := hf 3 _ rfl
  have e4 := hf 4 _ rfl
  simp [cells9, cells36] at e0 e1 e2 e3 e4
  obtain ⟨s0, h0, _⟩ := DataW.trod_string Try.underlying9 e0
  obtain ⟨s1, h1, _⟩ := DataW.trod_string Try.underlying9 e1
  obtain ⟨s2, h2, _⟩ := DataW.trod_string Try.underlying9 e2
  obtain ⟨s3, h3, _⟩ := DataW.trod_string Try.underlying9 e3
  obtain ⟨n4, h4, _⟩ := DataW.trod_int Try.underlying36 e4
  simp at h0 h1 h2 h3 h4
  exact ⟨⟨s0, s1, s2, s3, n4⟩, by simp [h0, h1, h2, h3, h4]⟩

theorem spot_none {w : World} {a : Addr} {v : Value} (h : w.cell? a = some v) : a.spot = none := by
  unfold World.cell? at h
  split at h
  · split at h
    · cases h
    · rename_i hs
      cases hq : a.spot with
      | none => rfl
      | some x => rw [hq] at hs; exact absurd rfl hs
  · cases h
theorem add_spot {b o j : Nat} : (⟨b, o, none⟩ : Addr).add j = ⟨b, o + j, none⟩ := by unfold Addr.add; split <;> simp_all

/-- A slice of methods that came in. -/
theorem open_ms {H : Type} {enc : TypeId × Value → H} {w : World} {base : Nat} {spare : Nat → Bool} {held : Bool} {fuel : Nat} {v : Value} {x : DataW H × List MemPlace}
    (h : DataW.trod enc Try.prog w base spare held fuel 23 [v] = some x) : ∃ ms : List Mt, MsAt w v ms ∧ ms.length ≤ 9223372036854775807 := by
  rcases open_slice Try.underlying23 h with ⟨hcs, _⟩ | ⟨a, len, cap, m, n, D, Pl, hcs, hb, hl, hm, hmm, _, hx⟩
  · simp at hcs
    subst hcs
    exact ⟨[], ⟨none, 0, rfl, fun j m hj => by simp at hj⟩, by simp⟩
  · simp at hcs
    subst hcs
    have hlm : len ≤ m := by rw [hmm]; split <;> omega
    rw [cells41] at hx
    have each : ∀ i, i < len → ∃ mt : Mt, w.cell? (a.add (i * 5)) = some (.string mt.id) ∧ w.cell? ((a.add (i * 5)).add 1) = some (.string mt.ty) ∧ w.cell? ((a.add (i * 5)).add 2) = some (.string mt.pk) ∧ w.cell? ((a.add (i * 5)).add 3) = some (.string mt.ky) ∧ w.cell? ((a.add (i * 5)).add 4) = some (.int .u32 mt.em) := fun i hi => by
      obtain ⟨cs', h1, h2⟩ := hx i (by omega)
      obtain ⟨mt, rfl⟩ := open_mt h2
      obtain ⟨_, _, hc⟩ := World.cells?_some h1
      refine ⟨mt, ?_, ?_, ?_, ?_, ?_⟩
      · have := hc 0 (by omega); simpa [Addr.add] using this
      · simpa using hc 1 (by omega)
      · simpa using hc 2 (by omega)
      · simpa using hc 3 (by omega)
      · simpa using hc 4 (by omega)
    have _i : Inhabited Mt := ⟨⟨⟨#[]⟩, ⟨#[]⟩, ⟨#[]⟩, ⟨#[]⟩, 0⟩⟩
    obtain ⟨M, hM⟩ := choose_lt each
    refine ⟨(List.range len).map M, ⟨some a, cap, by simp, fun j mt hj => ?_⟩, by simp; unfold maxLen at hm; omega⟩
    have hjl : j < len := by
      rcases Nat.lt_or_ge j len with q | q
      · exact q
      · rw [List.getElem?_eq_none (by simpa using q)] at hj; cases hj
    simp [hjl] at hj
    subst hj
    obtain ⟨b, o, sp⟩ := a
    have h0 := spot_none (hM 0 (by omega)).1
    simp [Addr.add] at h0
    subst h0
    obtain ⟨c0, c1, c2, c3, c4⟩ := hM j hjl
    simp only [add_spot] at c0 c1 c2 c3 c4
    exact ⟨b, o, rfl, c0, c1, c2, c3, c4⟩

/-- A slice of slices of methods that came in. -/
theorem open_ts {H : Type} {enc : TypeId × Value → H} {w : World} {base : Nat} {spare : Nat → Bool} {held : Bool} {fuel : Nat} {v : Value} {x : DataW H × List MemPlace}
    (h : DataW.trod enc Try.prog w base spare held fuel 22 [v] = some x) : ∃ tss : List (List Mt), TsAt w v tss ∧ tss.length ≤ 9223372036854775807 ∧ ∀ t, t ∈ tss → t.length ≤ 9223372036854775807 := by
  rcases open_slice1 Try.underlying22 cells23 h with ⟨hcs, _⟩ | ⟨a, len, cap, m, n, V, D, Pl, hcs, hb, hl, hm, hmm, _, hx⟩
  · simp at hcs
    subst hcs
    exact ⟨[], ⟨none, 0, rfl, fun j m hj => by simp at hj⟩, by simp, fun t ht => by simp at ht⟩
  · simp at hcs
    subst hcs
    have hlm : len ≤ m := by rw [hmm]; split <;> omega
    have each : ∀ i, i < len → ∃ ms : List Mt, w.cell? (a.add i) = some (V i) ∧ MsAt w (V i) ms ∧ ms.length ≤ 9223372036854775807 := fun i hi => by
      obtain ⟨h1, h2⟩ := hx i (by omega)
      obtain ⟨ms, h3, h4⟩ := open_ms h2
      exact ⟨ms, h1, h3, h4⟩
    obtain ⟨M, hM⟩ := choose_lt each
    refine ⟨(List.range len).map M, ⟨some a, cap, by simp, fun j ts hj => ?_⟩, by simp; unfold maxLen at hm; omega, fun t ht => ?_⟩
    · have hjl : j < len := by
        rcases Nat.lt_or_ge j len with q | q
        · exact q
        · rw [List.getElem?_eq_none (by simpa using q)] at hj; cases hj
      simp [hjl] at hj
      subst hj
      obtain ⟨b, o, sp⟩ := a
      have h0 := spot_none (hM 0 (by omega)).1
      simp [Addr.add] at h0
      subst h0
      obtain ⟨c0, c1, _⟩ := hM j hjl
      rw [add_spot] at c0
      exact ⟨b, o, V j, rfl, c0, c1⟩
    · simp at ht
      obtain ⟨i, hi, rfl⟩ := ht
      exact (hM i hi).2.2
end Go.Proofs.Qxb6604184a
