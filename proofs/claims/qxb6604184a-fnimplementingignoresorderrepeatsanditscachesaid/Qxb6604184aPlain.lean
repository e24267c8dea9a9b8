import Derived.Test.Qxb6604184aImpl
namespace Go.Proofs.Qxb6604184a
open Go.RowKit
set_option linter.unusedVariables false
set_option linter.unusedSimpArgs false

theorem beqL (a b : ByteArray) : (a.toList == b.toList) = true ↔ a = b := by
  rw [beq_iff_eq, ByteArray.toList_eq, ByteArray.toList_eq]
  constructor
  · intro h; cases a; cases b; simp_all
  · rintro rfl; rfl
theorem beqB (a b : ByteArray) : (a == b) = true ↔ a = b := MapKept.bytes_beq a b
theorem beqB_no {a b : ByteArray} (h : a ≠ b) : (a == b) = false := by
  rw [Bool.eq_false_iff]; exact fun k => h ((beqB a b).1 k)

/-- lastWith and the map agree. -/
theorem last_look (ts : List Mt) (id : ByteArray) : ∀ j, j ≤ ts.length →
    (lastTo ts id j = -1 ∧ look (ts.take j) id = none ∧ ∀ (i : Nat) (m : Mt), i < j → ts[i]? = some m → m.id ≠ id) ∨
    (∃ k m, k < j ∧ lastTo ts id j = (k : Int) ∧ ts[k]? = some m ∧ m.id = id ∧ look (ts.take j) id = some m ∧ ∀ (i : Nat) (m' : Mt), k < i → i < j → ts[i]? = some m' → m'.id ≠ id)
  | 0, _ => .inl ⟨rfl, rfl, fun i m hi => by omega⟩
  | j + 1, hj => by
    have hlt : j < ts.length := by omega
    have hg : ts[j]? = some ts[j] := List.getElem?_eq_getElem hlt
    rw [List.take_succ_eq_append_getElem hlt, look_snoc]
    by_cases h : ts[j].id = id
    · have h1 : ideq ts[j].id id = true := (beqL _ _).2 h
      refine .inr ⟨j, ts[j], by omega, by simp [lastTo, hg, h1], hg, h, ?_, fun i m' h2 h3 => by omega⟩
      rw [if_pos ((beqB _ _).2 h.symm)]
    · have h1 : ideq ts[j].id id = false := by rw [Bool.eq_false_iff]; exact fun k => h ((beqL _ _).1 k)
      have h2 : lastTo ts id (j + 1) = lastTo ts id j := by simp [lastTo, hg, h1]
      rw [h2, if_neg (by rw [beqB_no (Ne.symm h)]; simp)]
      rcases last_look ts id j (by omega) with ⟨e1, e2, e3⟩ | ⟨k, m, e0, e1, e2, e3, e4, e5⟩
      · refine .inl ⟨e1, e2, fun i m hi hm => ?_⟩
        rcases Nat.lt_or_ge i j with q | q
        · exact e3 i m q hm
        · obtain rfl : i = j := by omega
          rw [hg] at hm; cases hm; exact h
      · refine .inr ⟨k, m, by omega, e1, e2, e3, e4, fun i m' hi hi2 hm => ?_⟩
        rcases Nat.lt_or_ge i j with q | q
        · exact e5 i m' hi q hm
        · obtain rfl : i = j := by omega
          rw [hg] at hm; cases hm; exact h

theorem last_all (ts : List Mt) (id : ByteArray) :
    (lastTo ts id ts.length = -1 ∧ look ts id = none ∧ ∀ (i : Nat) (m : Mt), ts[i]? = some m → m.id ≠ id) ∨
    (∃ k m, k < ts.length ∧ lastTo ts id ts.length = (k : Int) ∧ ts[k]? = some m ∧ m.id = id ∧ look ts id = some m ∧ ∀ (i : Nat) (m' : Mt), k < i → ts[i]? = some m' → m'.id ≠ id) := by
  have lt : ∀ (i : Nat) (m : Mt), ts[i]? = some m → i < ts.length := fun i m h => by
    rcases Nat.lt_or_ge i ts.length with q | q
    · exact q
    · rw [List.getElem?_eq_none q] at h; cases h
  have := last_look ts id ts.length (Nat.le_refl _)
  rw [List.take_length] at this
  rcases this with ⟨e1, e2, e3⟩ | ⟨k, m, e0, e1, e2, e3, e4, e5⟩
  · exact .inl ⟨e1, e2, fun i m h => e3 i m (lt i m h) h⟩
  · exact .inr ⟨k, m, e0, e1, e2, e3, e4, fun i m' h1 h2 => e5 i m' h1 (lt i m' h2) h2⟩

/-- Is it there? -/
def hasB (k : ByteArray) (t : List ByteArray) : Bool := t.any fun x => k == x
theorem hasB_iff (k : ByteArray) (t : List ByteArray) : hasB k t = true ↔ k ∈ t := by
  unfold hasB
  rw [List.any_eq_true]
  constructor
  · rintro ⟨x, hx, h⟩
    rw [(beqB k x).1 h]
    exact hx
  · exact fun h => ⟨k, h, (beqB k k).2 rfl⟩
/-- 0 where it is there, else 1. -/
def one (k : ByteArray) (t : List ByteArray) : Nat := if hasB k t = true then 0 else 1
theorem one_yes {k : ByteArray} {t : List ByteArray} (h : k ∈ t) : one k t = 0 := by unfold one; rw [if_pos ((hasB_iff k t).2 h)]
theorem one_no {k : ByteArray} {t : List ByteArray} (h : ¬k ∈ t) : one k t = 1 := by unfold one; rw [if_neg (fun q => h ((hasB_iff k t).1 q))]
/-- How many IDs there are. -/
def ids : List ByteArray → Nat
  | [] => 0
  | k :: t => ids t + one k t
theorem ids_snoc (t : List ByteArray) (m : ByteArray) : ids (t ++ [m]) = ids t + one m t := by
  induction t with
  | nil => rfl
  | cons x t ih =>
    simp only [List.cons_append, ids, ih]
    by_cases h3 : x = m
    · subst h3
      rw [one_yes (t := t ++ [x]) (by simp), one_yes (t := x :: t) (by simp)]
    · have h4 : ¬m = x := fun e => h3 e.symm
      by_cases h1 : m ∈ t <;> by_cases h2 : x ∈ t
      · rw [one_yes h1, one_yes h2, one_yes (t := t ++ [m]) (by simp [h2]), one_yes (t := x :: t) (by simp [h1])]
      · rw [one_yes h1, one_no h2, one_no (t := t ++ [m]) (by simp [h2, h3]), one_yes (t := x :: t) (by simp [h1])]
      · rw [one_no h1, one_yes h2, one_yes (t := t ++ [m]) (by simp [h2]), one_no (t := x :: t) (by simp [h1, h4])]
      · rw [one_no h1, one_no h2, one_no (t := t ++ [m]) (by simp [h2, h3]), one_no (t := x :: t) (by simp [h1, h4])]
theorem look_mem (ts : List Mt) (id : ByteArray) : (look ts id).isSome = true ↔ id ∈ ts.map (·.id) := by
  rcases last_all ts id with ⟨_, e2, e3⟩ | ⟨k, m, e0, e1, e2, e3, e4, e5⟩
  · rw [e2]
    simp only [Option.isSome_none, Bool.false_eq_true, false_iff]
    intro h
    obtain ⟨m, hm, rfl⟩ := List.mem_map.1 h
    obtain ⟨i, hi, hm⟩ := List.getElem_of_mem hm
    exact e3 i m (by rw [List.getElem?_eq_getElem hi, hm]) rfl
  · rw [e4]
    simp only [Option.isSome_some, true_iff]
    exact List.mem_map.2 ⟨m, List.mem_of_getElem? e2, e3⟩
theorem len_mkE (ts : List Mt) : (mkE ts).length = ids (ts.map (·.id)) := by
  have : ∀ r : List Mt, (mkE r.reverse).length = ids (r.reverse.map (·.id)) := fun r => by
    induction r with
    | nil => rfl
    | cons m t ih =>
      rw [List.reverse_cons, mkE_snoc, len_upd, List.map_append, List.map_cons, List.map_nil, ids_snoc, ih, find_mkE]
      have := look_mem t.reverse m.id
      rw [Option.isSome_map]
      by_cases h : (look t.reverse m.id).isSome = true
      · rw [if_pos h, one_yes (this.1 h)]; rfl
      · rw [if_neg h, one_no (fun q => h (this.2 q))]
  simpa using this ts.reverse
/-- The count behind j rounds of setIs. -/
theorem ids_last {ts : List Mt} {j : Nat} (hj : j < ts.length) (h : lastTo ts ts[j].id ts.length = (j : Int)) : ids ((ts.drop j).map (·.id)) = ids ((ts.drop (j + 1)).map (·.id)) + 1 ∧ find (mkE ts) ts[j].id = some (.agg (vals ts[j])) := by
  rcases last_all ts ts[j].id with ⟨e1, _⟩ | ⟨k, m, e0, e1, e2, e3, e4, e5⟩
  · omega
  · obtain rfl : k = j := by omega
    rw [List.getElem?_eq_getElem hj] at e2
    cases e2
    refine ⟨?_, by rw [find_mkE, e4]; rfl⟩
    rw [List.drop_eq_getElem_cons hj, List.map_cons, ids, one_no]
    intro hm
    obtain ⟨m, hm, he⟩ := List.mem_map.1 hm
    obtain ⟨i, hi, hm⟩ := List.getElem_of_mem hm
    rw [List.getElem_drop] at hm
    exact e5 (k + 1 + i) m (by omega) (by rw [List.getElem?_eq_getElem (by simp at hi; omega), hm]) he
theorem ids_not {ts : List Mt} {j : Nat} (hj : j < ts.length) (h : lastTo ts ts[j].id ts.length ≠ (j : Int)) : ids ((ts.drop j).map (·.id)) = ids ((ts.drop (j + 1)).map (·.id)) := by
  rw [List.drop_eq_getElem_cons hj, List.map_cons, ids, one_yes]; · rfl
  rcases last_all ts ts[j].id with ⟨e1, _, e3⟩ | ⟨k, m, e0, e1, e2, e3, e4, e5⟩
  · exact absurd rfl (e3 j _ (List.getElem?_eq_getElem hj))
  · have hk : j < k := by
      rcases Nat.lt_trichotomy j k with q | q | q
      · exact q
      · subst q; exact absurd e1 h
      · exact absurd rfl (e5 j _ q (List.getElem?_eq_getElem hj))
    refine List.mem_map.2 ⟨m, ?_, e3⟩
    have : m = (ts.drop (j + 1))[k - (j + 1)]'(by simp; omega) := by
      rw [List.getElem_drop]
      rw [List.getElem?_eq_getElem e0] at e2
      cases e2
      congr 1; omega
    rw [this]
    exact List.getElem_mem _

/-! ### Order and repeats -/
theorem hold_mem (ms ts : List Mt) : hold ms ts = true ↔ ∀ m, m ∈ ms → okM ts m = true := by simp [hold]
theorem hold_same (ms ts : List Mt) : hold (ms.reverse ++ ms) ts = hold ms ts := by
  rw [Bool.eq_iff_iff, hold_mem, hold_mem]
  constructor
  · exact fun h m hm => h m (by simp [hm])
  · intro h m hm
    rcases List.mem_append.1 hm with q | q
    · exact h m (by simpa using q)
    · exact h m q
theorem filter_same (ms : List Mt) (tss : List (List Mt)) : tss.filter (hold (ms.reverse ++ ms)) = tss.filter (hold ms) := by
  congr 1; funext ts; exact hold_same ms ts
end Go.Proofs.Qxb6604184a
