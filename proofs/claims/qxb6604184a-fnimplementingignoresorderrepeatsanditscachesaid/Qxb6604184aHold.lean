import Derived.Test.Qxb6604184aKey
namespace Go.Proofs.Qxb6604184a
open Go.RowKit
set_option linter.unusedVariables false
set_option linter.unusedSimpArgs false

/-- The last method of ID k. -/
def look (ts : List Mt) (k : ByteArray) : Option Mt := ts.foldl (fun o m => if k == m.id then some m else o) none
theorem look_snoc (ts : List Mt) (m : Mt) (k : ByteArray) : look (ts ++ [m]) k = if k == m.id then some m else look ts k := by simp [look]
theorem find_mkE (k : ByteArray) (ts : List Mt) : find (mkE ts) k = (look ts k).map (fun m => .agg (vals m)) := by
  have : ∀ r : List Mt, find (mkE r.reverse) k = (look r.reverse k).map (fun m => .agg (vals m)) := fun r => by
    induction r with
    | nil => rfl
    | cons m t ih =>
      rw [List.reverse_cons, mkE_snoc, find_upd, look_snoc, ih]
      split <;> rfl
  simpa using this ts.reverse
/-- One method that is asked for is there. -/
def okM (ts : List Mt) (want : Mt) : Bool := match look ts want.id with
  | some m => m.ty.toList == want.ty.toList
  | none => false
/-- All of them are there. -/
def hold (ms : List Mt) (ts : List Mt) : Bool := ms.all (okM ts)
theorem okM_none {ts : List Mt} {want : Mt} (h : look ts want.id = none) : okM ts want = false := by simp [okM, h]
theorem okM_some {ts : List Mt} {want m : Mt} (h : look ts want.id = some m) : okM ts want = (m.ty.toList == want.ty.toList) := by simp [okM, h]
theorem hold_no {ms : List Mt} {ts : List Mt} {j : Nat} (hj : j < ms.length) (h : okM ts ms[j] = false) : hold ms ts = false := by
  rw [hold, List.all_eq_false]
  exact ⟨ms[j], List.getElem_mem hj, by simp [h]⟩
theorem hold_step {ms : List Mt} {ts : List Mt} {j : Nat} (hj : j < ms.length) (h0 : hold (ms.take j) ts = true) (h : okM ts ms[j] = true) : hold (ms.take (j + 1)) ts = true := by
  unfold hold at h0 ⊢
  rw [List.take_succ_eq_append_getElem hj, List.all_append, h0]
  simpa using h

/-- All blocks stand but one. -/
structure Most (im : Nat) (w w' : World) : Prop where
  os : w'.os = w.os
  tape : w'.tape = w.tape
  output : w'.output = w.output
  size : w.heap.size ≤ w'.heap.size
  block : ∀ b, b ≠ im → b < w.heap.size → w'.heap[b]? = w.heap[b]?
theorem Most.of {im : Nat} {w w' : World} (h : Below w.heap.size w w') : Most im w w' := ⟨h.os, h.tape, h.output, h.size, fun b _ hb => h.block b hb⟩
theorem Most.trans {im : Nat} {a b c : World} (h : Most im a b) (k : Most im b c) : Most im a c :=
  ⟨k.os.trans h.os, k.tape.trans h.tape, k.output.trans h.output, Nat.le_trans h.size k.size, fun i hi hl => (k.block i hi (Nat.lt_of_lt_of_le hl h.size)).trans (h.block i hi hl)⟩
theorem Most.below {im B : Nat} {w0 w w' : World} (h : Most im w w') (hb : Below B w0 w) (hB : B ≤ im) (hs : B ≤ w.heap.size) : Below B w0 w' :=
  hb.trans ⟨h.os, h.tape, h.output, h.size, fun i hi => h.block i (by omega) (by omega)⟩
theorem Most.put {im : Nat} {w : World} {l : Ents} (h : MapIs w im l) (k : ByteArray) (v : Value) : Most im w (putW w im k v) := by
  obtain ⟨_, h2, h3, h4, h5, h6⟩ := put_is h k v
  exact ⟨h4, h5, h6, by omega, fun b hb _ => h2 b hb⟩
theorem not_map {w : World} {im b o : Nat} {l : Ents} {v : Value} (h : MapIs w im l) (hc : w.cell? ⟨b, o, none⟩ = some v) : b ≠ im := by
  rintro rfl
  obtain ⟨es, c, hb, _⟩ := h
  simp [World.cell?, hb] at hc
theorem Most.cell {im : Nat} {w w' : World} {l : Ents} (h : Most im w w') (hm : MapIs w im l) {b o : Nat} {v : Value} (hc : w.cell? ⟨b, o, none⟩ = some v) : w'.cell? ⟨b, o, none⟩ = some v :=
  (cell_same (h.block b (not_map hm hc) (lt_of_cell hc))).trans hc
theorem MsAt.most {im : Nat} {w w' : World} {l : Ents} {v : Value} {ms : List Mt} (h : MsAt w v ms) (k : Most im w w') (hm : MapIs w im l) : MsAt w' v ms := by
  obtain ⟨a, cap, rfl, hr⟩ := h
  refine ⟨a, cap, rfl, fun j m hj => ?_⟩
  obtain ⟨b, o, ha, hA⟩ := hr j m hj
  exact ⟨b, o, ha, k.cell hm hA.c0, k.cell hm hA.c1, k.cell hm hA.c2, k.cell hm hA.c3, k.cell hm hA.c4⟩
theorem TsAt.most {im : Nat} {w w' : World} {l : Ents} {v : Value} {tss : List (List Mt)} (h : TsAt w v tss) (k : Most im w w') (hm : MapIs w im l) : TsAt w' v tss := by
  obtain ⟨a, cap, rfl, hr⟩ := h
  exact ⟨a, cap, rfl, fun e ms he => let ⟨b, o, vi, ha, hc, hA⟩ := hr e ms he; ⟨b, o, vi, ha, k.cell hm hc, hA.most k hm⟩⟩
theorem TmAt.most {im : Nat} {w w' : World} {v : Value} {tss : List (List Mt)} (h : TmAt (· ≠ im) w v tss) (k : Most im w w') : TmAt (· ≠ im) w' v tss := h.keep k.block

/-- The cells of a row of method sets. -/
def SetsIn (im : Nat) (w : World) (xs : List Value) (L : List (List Mt)) : Prop :=
  ∀ e ts, L[e]? = some ts → ∃ r, xs[e * 2]? = some (.map (some r)) ∧ xs[e * 2 + 1]? = some (.slice none 0 0) ∧ r ≠ im ∧ MapIs w r (mkE ts)
theorem SetsIn.snoc {im : Nat} {w : World} {xs : List Value} {L : List (List Mt)} (h : SetsIn im w xs L) (hl : xs.length = L.length * 2) {r : Nat} {ts : List Mt} (hr : r ≠ im) (hm : MapIs w r (mkE ts)) :
    SetsIn im w (xs ++ [.map (some r), .slice none 0 0]) (L ++ [ts]) := fun e t he => by
  rcases Nat.lt_trichotomy e L.length with k | k | k
  · rw [List.getElem?_append_left k] at he
    obtain ⟨q, h1, h2, h3, h4⟩ := h e t he
    exact ⟨q, by rw [List.getElem?_append_left (by omega)]; exact h1, by rw [List.getElem?_append_left (by omega)]; exact h2, h3, h4⟩
  · subst k
    simp at he
    subst he
    refine ⟨r, ?_, ?_, hr, hm⟩
    · rw [List.getElem?_append_right (by omega), hl]; simp
    · rw [List.getElem?_append_right (by omega), hl]; simp
  · rw [List.getElem?_eq_none (by simp; omega)] at he; cases he
theorem SetsIn.same {im : Nat} {w w' : World} {xs : List Value} {L : List (List Mt)} (h : SetsIn im w xs L) (k : Most im w w') : SetsIn im w' xs L := fun e ts he =>
  let ⟨r, h1, h2, h3, h4⟩ := h e ts he; ⟨r, h1, h2, h3, h4.same (k.block r h3 h4.lt)⟩
theorem SetsIn.tm {im B n : Nat} {w w1 : World} {v : Value} {xs : List Value} {L : List (List Mt)} (h : SetsIn im w1 xs L) (hn : n = L.length) (hown : w.ownsRow B 49 2 v n xs) (hB : im < B) (k : Most im w1 w) : TmAt (· ≠ im) w v L := by
  subst hn
  rcases hown.2 with ⟨rfl, hz⟩ | ⟨g, cap, cur, rfl, hb, hg, hrest⟩
  · exact ⟨none, 0, by rw [hz], fun e ts he => by rw [List.getElem?_eq_none (by omega)] at he; cases he⟩
  · refine ⟨_, cap, rfl, fun e ts he => ?_⟩
    obtain ⟨r, h1, h2, h3, h4⟩ := h.same k e ts he
    have c := hown.cells (g := g) rfl
    have hadd : ∀ j, (⟨g, 0, none⟩ : Addr).add j = ⟨g, j, none⟩ := fun j => by unfold Addr.add; split <;> simp_all
    refine ⟨g, 0, r, rfl, by show g ≠ im; omega, ?_, ?_, h3, h4⟩
    · have := c _ _ h1; rw [hadd] at this; simpa using this
    · have := c _ _ h2; rw [hadd] at this; simpa using this

theorem own_below {w w' : World} {B n : Nat} {v : Value} {xs : List Value} {T : TypeId} {k : Nat} (h : w.ownsRow B T k v n xs) (hb : Below w.heap.size w w') : w'.ownsRow B T k v n xs :=
  h.kept (row := none) ⟨hb.os, hb.tape, hb.output, hb.size, fun i hi _ => hb.block i hi⟩ (by cases hv : v.ownBlock <;> simp)
theorem filter_yes {p : List Mt → Bool} {tss : List (List Mt)} {e : Nat} {ts : List Mt} (h : e < tss.length) (ht : tss[e] = ts) (hp : p ts = true) : (tss.take (e + 1)).filter p = (tss.take e).filter p ++ [ts] := by
  rw [List.take_succ_eq_append_getElem h, ht]; simp [hp]
theorem filter_no {p : List Mt → Bool} {tss : List (List Mt)} {e : Nat} {ts : List Mt} (h : e < tss.length) (ht : tss[e] = ts) (hp : p ts = false) : (tss.take (e + 1)).filter p = (tss.take e).filter p := by
  rw [List.take_succ_eq_append_getElem h, ht]; simp [hp]
theorem zero30 (W : World) : (zeroValue 30).run Try.prog W = .ok (.slice none 0 0) W := by
  have h : Try.t30.zero = some (.slice none 0 0) := by kernel_rfl
  simp [zeroValue, h]
theorem zero38 (W : World) : (zeroValue 38).run Try.prog W = .ok (.agg #[.string ⟨#[]⟩, .string ⟨#[]⟩, .string ⟨#[]⟩, .string ⟨#[]⟩, .int .u32 0]) W := by
  have h : Try.t38.zero = some (.agg #[.string ⟨#[]⟩, .string ⟨#[]⟩, .string ⟨#[]⟩, .string ⟨#[]⟩, .int .u32 0]) := by kernel_rfl
  simp [zeroValue, h]
end Go.Proofs.Qxb6604184a
