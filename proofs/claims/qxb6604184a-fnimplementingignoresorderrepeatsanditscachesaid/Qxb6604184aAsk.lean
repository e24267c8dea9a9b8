import Derived.Test.Qxb6604184aSets
namespace Go.Proofs.Qxb6604184a
open Go.RowKit
set_option linter.unusedVariables false
set_option linter.unusedSimpArgs false

/-! ### A row of methods that grows -/
def flat : List Mt → List Value
  | [] => []
  | m :: t => .string m.id :: .string m.ty :: .string m.pk :: .string m.ky :: .int .u32 m.em :: flat t
theorem flat_snoc (l : List Mt) (m : Mt) : flat (l ++ [m]) = flat l ++ [.string m.id, .string m.ty, .string m.pk, .string m.ky, .int .u32 m.em] := by
  induction l with
  | nil => rfl
  | cons x t ih => simp [flat, ih]
theorem flat_at : ∀ (l : List Mt) (j : Nat) (m : Mt), l[j]? = some m → (flat l)[j * 5]? = some (.string m.id) ∧ (flat l)[j * 5 + 1]? = some (.string m.ty) ∧ (flat l)[j * 5 + 2]? = some (.string m.pk) ∧ (flat l)[j * 5 + 3]? = some (.string m.ky) ∧ (flat l)[j * 5 + 4]? = some (.int .u32 m.em)
  | [], j, m, h => by simp at h
  | x :: t, 0, m, h => by simp at h; subst h; simp [flat]
  | x :: t, j + 1, m, h => by
    have ih := flat_at t j m (by simpa using h)
    have e0 : (j + 1) * 5 = j * 5 + 5 := by omega
    have e1 : (j + 1) * 5 + 1 = j * 5 + 1 + 5 := by omega
    have e2 : (j + 1) * 5 + 2 = j * 5 + 2 + 5 := by omega
    have e3 : (j + 1) * 5 + 3 = j * 5 + 3 + 5 := by omega
    have e4 : (j + 1) * 5 + 4 = j * 5 + 4 + 5 := by omega
    rw [e4, e3, e2, e1, e0]
    simpa [flat] using ih
theorem own_ms {w : World} {B n : Nat} {v : Value} {L : List Mt} (hn : n = L.length) (h : w.ownsRow B 38 5 v n (flat L)) : MsAt w v L := by
  subst hn
  rcases h.2 with ⟨rfl, hz⟩ | ⟨g, cap, cur, rfl, hb, hg, hrest⟩
  · exact ⟨none, 0, by rw [hz], fun e ts he => by rw [List.getElem?_eq_none (by omega)] at he; cases he⟩
  · refine ⟨_, cap, rfl, fun j m hj => ?_⟩
    obtain ⟨h0, h1, h2, h3, h4⟩ := flat_at L j m hj
    have c := h.cells (g := g) rfl
    have hadd : ∀ j, (⟨g, 0, none⟩ : Addr).add j = ⟨g, j, none⟩ := fun j => by unfold Addr.add; split <;> simp_all
    have c' : ∀ i u, (flat L)[i]? = some u → w.cell? ⟨g, i, none⟩ = some u := fun i u hu => by have := c i u hu; rwa [hadd] at this
    refine ⟨g, 0, rfl, ?_⟩
    rw [Nat.zero_add]
    exact ⟨c' _ _ h0, c' _ _ h1, c' _ _ h2, c' _ _ h3, c' _ _ h4⟩
theorem info38 : ∃ i z, Try.prog.info? 38 = some i ∧ i.zero = some z ∧ i.size = 5 ∧ i.bytes = 72 ∧ z.cells.size = 5 := by
  have h : (Try.prog.info? 38).map (fun i => (i.zero.map (fun z => z.cells.size), i.size, i.bytes)) = some (some 5, 5, 72) := by kernel_rfl
  obtain ⟨i, hi, hz⟩ := Option.map_eq_some_iff.1 h
  simp only [Prod.mk.injEq] at hz
  obtain ⟨z, hz0, hz1⟩ := Option.map_eq_some_iff.1 hz.1
  exact ⟨i, z, hi, hz0, hz.2.1, hz.2.2, hz1⟩
theorem news5 (w : World) (x0 x1 x2 x3 x4 : Value) (T : TypeId) : ∀ (j : Nat) u, [x0, x1, x2, x3, x4][j]? = some u → (w.alloc (.cells #[x0, x1, x2, x3, x4] T)).cell? ((⟨w.heap.size, 0, none⟩ : Addr).add j) = some u := fun j u hu => by
  have hadd : (⟨w.heap.size, 0, none⟩ : Addr).add j = ⟨w.heap.size, j, none⟩ := by unfold Addr.add; split <;> simp_all
  rw [hadd, (RowIs.new w T #[x0, x1, x2, x3, x4]).cell j]
  simpa using hu
theorem one5 (m : Mt) : ∀ u ∈ [Value.string m.id, .string m.ty, .string m.pk, .string m.ky, .int .u32 m.em], u.oneCell' = true := fun u hu => by
  simp at hu
  rcases hu with rfl | rfl | rfl | rfl | rfl <;> rfl

/-! ### A graph whose cache is right -/
structure St (im gb : Nat) (vt : Value) (tss F : List (List Mt)) (w : World) : Prop where
  g3 : w.cell? ⟨gb, 3, none⟩ = some vt
  g4 : w.cell? ⟨gb, 4, none⟩ = some (.map (some im))
  tm : TmAt (· ≠ im) w vt tss
  map : ∃ l, MapIs w im l ∧ ∀ k v, find l k = some v → TmAt (· ≠ im) w v F
/-- One more question. -/
def AskPost (im gb : Nat) (vt : Value) (tss F : List (List Mt)) (w : World) (en : Ending) (w' : World) : Prop :=
  ∃ a c, en = .returned (.slice a F.length c) ∧ Most im w w' ∧ TmAt (· ≠ im) w' (.slice a F.length c) F ∧ St im gb vt tss F w'
theorem ask {im gb : Nat} {vt : Value} {tss F : List (List Mt)} {w : World} (h : St im gb vt tss F w) {vi : Value} {ms : List Mt} (hvi : MsAt w vi ms) (hl : ms.length ≤ 1000000000) (hs : sumI ms ≤ 1000000000) (htl : tss.length ≤ 1000000000) (hF : tss.filter (hold ms) = F) :
    Calls Try.prog 12 #[.pointer (some ⟨gb, 0, none⟩), vi] w (AskPost im gb vt tss F w) := by
  obtain ⟨g3, g4, tm, l, hm, hc⟩ := h
  refine (zz_impl gb im vt vi w ms tss l hl hs hvi htl g3 g4 tm hm).mono ?_
  rintro en w' ⟨v, rfl, hM, ⟨hf, hm'⟩ | ⟨hf, ht, hm'⟩⟩
  · have ht := (hc _ _ hf).most hM
    obtain ⟨a, c, rfl, hr⟩ := id ht
    exact ⟨a, c, rfl, hM, ht, hM.cell hm g3, hM.cell hm g4, tm.most hM, l, hm', fun k v hk => (hc k v hk).most hM⟩
  · rw [hF] at ht
    obtain ⟨a, c, rfl, hr⟩ := id ht
    refine ⟨a, c, rfl, hM, ht, hM.cell hm g3, hM.cell hm g4, tm.most hM, _, hm', fun k v hk => ?_⟩
    rw [find_upd] at hk
    split at hk
    · cases hk; exact ht
    · exact (hc k v hk).most hM

theorem filter_at {p : List Mt → Bool} {tss : List (List Mt)} {e : Nat} {ts : List Mt} (h : e < tss.length) (ht : tss[e] = ts) (hp : p ts = true) : (tss.filter p)[((tss.take e).filter p).length]? = some ts := by
  have e1 : tss = tss.take e ++ (ts :: tss.drop (e + 1)) := by
    rw [← ht, ← List.drop_eq_getElem_cons h, List.take_append_drop]
  have e2 : tss.filter p = (tss.take e).filter p ++ (ts :: (tss.drop (e + 1)).filter p) := by
    refine (congrArg (List.filter p) e1).trans ?_
    rw [List.filter_append, List.filter_cons_of_pos hp]
  rw [e2]
  simp
theorem sumI_append (a b : List Mt) : sumI (a ++ b) = sumI a + sumI b := by
  induction a with
  | nil => simp [sumI]
  | cons x t ih => simp only [List.cons_append, sumI, ih]; omega
theorem sumI_rev (a : List Mt) : sumI a.reverse = sumI a := by
  induction a with
  | nil => rfl
  | cons x t ih => simp only [List.reverse_cons, sumI_append, sumI, ih]; omega
theorem rev_take {l : List Mt} {k j : Nat} (hj : j < l.length) (hk : k + j + 1 = l.length) : l.reverse.take (k + 1) = l.reverse.take k ++ [l[j]] := by
  rw [List.take_succ_eq_append_getElem (by simp; omega), List.getElem_reverse]
  have : ∀ i (hi : i < l.length), i = j → l[i] = l[j] := fun i hi e => by subst e; rfl
  rw [this _ _ (by omega)]

theorem graph_st {w3 w4 : World} {at3 : Option Addr} {n ct3 : Nat} {S : Nat → Prop} {tss F : List (List Mt)} (hn : n = tss.length) (hw : w4 = ((w3.alloc (.map #[] 0)).alloc (.map #[] 0)).alloc (.cells #[.map none, .map none, .map none, .slice at3 n ct3, .map (some w3.heap.size), .map (some (w3.heap.size + 1)), .map none] 59))
    (ht : TmAt S w3 (.slice at3 n ct3) tss) : St w3.heap.size (w3.heap.size + 1 + 1) (.slice at3 n ct3) tss F w4 ∧ Below w3.heap.size w3 w4 := by
  have hb1 : Below w3.heap.size w3 (w3.alloc (.map #[] 0)) := (Below.refl _ _).alloc (Nat.le_refl _) _
  have hb2 : Below w3.heap.size w3 ((w3.alloc (.map #[] 0)).alloc (.map #[] 0)) := hb1.alloc (World.le_alloc _ _) _
  have hb3 : Below w3.heap.size w3 w4 := by rw [hw]; exact hb2.alloc hb2.size _
  have hs2 : ((w3.alloc (.map #[] 0)).alloc (.map #[] 0)).heap.size = w3.heap.size + 1 + 1 := by simp
  have hr := RowIs.new ((w3.alloc (.map #[] 0)).alloc (.map #[] 0)) 59 #[.map none, .map none, .map none, .slice at3 n ct3, .map (some w3.heap.size), .map (some (w3.heap.size + 1)), .map none]
  rw [← hw, hs2] at hr
  have hm0 := ((MapIs.new w3).below ((Below.refl _ _).alloc (Nat.le_refl _) (.map #[] 0))).below ((Below.refl _ _).alloc (Nat.le_refl _) (.cells #[.map none, .map none, .map none, .slice at3 n ct3, .map (some w3.heap.size), .map (some (w3.heap.size + 1)), .map none] 59))
  rw [← hw] at hm0
  refine ⟨⟨hr.cell 3, hr.cell 4, ?_, [], hm0, fun k v hk => by simp [find] at hk⟩, hb3⟩
  exact (ht.mono (S' := (· ≠ w3.heap.size)) (fun b hb _ => by show b ≠ w3.heap.size; omega)).most (Most.of hb3)
theorem TmAt.get {S : Nat → Prop} {w w' : World} {a : Option Addr} {n c p : Nat} {F : List (List Mt)} {ts : List Mt} (h : TmAt S w (.slice a n c) F) (hb : Below w.heap.size w w') (hp : F[p]? = some ts) :
    ∃ b o r, a = some ⟨b, o, none⟩ ∧ w'.cell? ⟨b, o + p * 2, none⟩ = some (.map (some r)) ∧ w'.cell? ⟨b, o + p * 2 + 1, none⟩ = some (.slice none 0 0) ∧ MapIs w' r (mkE ts) := by
  obtain ⟨a', c', he, hr⟩ := h
  cases he
  obtain ⟨b, o, r, ha, _, h1, h2, _, h3⟩ := hr p ts hp
  exact ⟨b, o, r, ha, (Keeps.of hb).cell h1, (Keeps.of hb).cell h2, h3.below hb⟩
theorem sets_at {r : Nat} {vt : Value} {ts : List Mt} {w : World} (hm : MapIs w r (mkE ts)) (ht : MsAt w vt ts) (hl : ts.length ≤ 1048576) (c : Array Value) :
    Calls Try.prog 14 #[.map (some r), vt] (w.alloc (.cells c 49)).drew fun en w' => en = .returned (.bool true) ∧ Hid (Below w.heap.size w w') := by
  have hb : Below w.heap.size w (w.alloc (.cells c 49)).drew := ((Below.refl _ _).alloc (Nat.le_refl _) _).drew
  refine (sets_any r vt ts _ (hm.below hb) (ht.keep (Keeps.of hb)) (by omega)).mono ?_
  rintro en w' ⟨rfl, h⟩
  exact ⟨rfl, hide (hb.trans (h.mono hb.size))⟩
theorem St.below {im gb : Nat} {vt : Value} {tss F : List (List Mt)} {w w' : World} (h : St im gb vt tss F w) (hb : Below w.heap.size w w') : St im gb vt tss F w' := by
  obtain ⟨g3, g4, tm, l, hm, hc⟩ := h
  exact ⟨(Keeps.of hb).cell g3, (Keeps.of hb).cell g4, tm.most (Most.of hb), l, hm.below hb, fun k v hk => (hc k v hk).most (Most.of hb)⟩
end Go.Proofs.Qxb6604184a
