import Derived.Test.Qxb6604184aMaps
namespace Go.Proofs.Qxb6604184a
open Go.RowKit
set_option linter.unusedVariables false
set_option linter.unusedSimpArgs false

/-- The method set that a list makes. -/
def mkE (ms : List Mt) : Ents := ms.foldl (fun l m => upd l m.id (.agg (vals m))) []
theorem mkE_snoc (ms : List Mt) (m : Mt) : mkE (ms ++ [m]) = upd (mkE ms) m.id (.agg (vals m)) := by simp [mkE]
theorem mkE_take {ms : List Mt} {k : Nat} (h : k < ms.length) : mkE (ms.take (k + 1)) = upd (mkE (ms.take k)) ms[k].id (.agg (vals ms[k])) := by
  rw [List.take_succ_eq_append_getElem h, mkE_snoc]

theorem MapIs.lt {w : World} {r : Nat} {l : Ents} (h : MapIs w r l) : r < w.heap.size := by
  obtain ⟨es, c, hb, _⟩ := h
  rcases Nat.lt_or_ge r w.heap.size with k | k
  · exact k
  · simp [Array.getElem?_eq_none k] at hb
theorem MapIs.same {w w' : World} {r : Nat} {l : Ents} (h : MapIs w r l) (e : w'.heap[r]? = w.heap[r]?) : MapIs w' r l := by
  obtain ⟨es, c, hb, hr⟩ := h
  exact ⟨es, c, e.trans hb, hr⟩
theorem MapIs.below {w w' : World} {r : Nat} {l : Ents} (h : MapIs w r l) (hb : Below w.heap.size w w') : MapIs w' r l := h.same (hb.block r h.lt)
theorem MapIs.new (w : World) : MapIs (w.alloc (.map #[] 0)) w.heap.size [] := ⟨#[], 0, by show (w.heap.push _)[w.heap.size]? = _; simp, rfl⟩

/-- A slice of method sets (a map each), its blocks and maps all in S. -/
def TmAt (S : Nat → Prop) (w : World) (v : Value) (tss : List (List Mt)) : Prop :=
  ∃ a cap, v = .slice a tss.length cap ∧ ∀ e ms, tss[e]? = some ms → ∃ b o r, a = some ⟨b, o, none⟩ ∧ S b ∧ w.cell? ⟨b, o + e * 2, none⟩ = some (.map (some r)) ∧ w.cell? ⟨b, o + e * 2 + 1, none⟩ = some (.slice none 0 0) ∧ S r ∧ MapIs w r (mkE ms)
theorem cell_same {w w' : World} {b o : Nat} (e : w'.heap[b]? = w.heap[b]?) : w'.cell? ⟨b, o, none⟩ = w.cell? ⟨b, o, none⟩ := by simp only [World.cell?, e]
theorem TmAt.keep {S : Nat → Prop} {w w' : World} {v : Value} {tss : List (List Mt)} (h : TmAt S w v tss) (k : ∀ b, S b → b < w.heap.size → w'.heap[b]? = w.heap[b]?) : TmAt S w' v tss := by
  obtain ⟨a, cap, rfl, hr⟩ := h
  refine ⟨a, cap, rfl, fun e ms he => ?_⟩
  obtain ⟨b, o, r, ha, hb, h1, h2, hs, hm⟩ := hr e ms he
  have e1 := k b hb (lt_of_cell h1)
  exact ⟨b, o, r, ha, hb, (cell_same e1).trans h1, (cell_same e1).trans h2, hs, hm.same (k r hs hm.lt)⟩
theorem TmAt.mono {S S' : Nat → Prop} {w : World} {v : Value} {tss : List (List Mt)} (h : TmAt S w v tss) (k : ∀ b, b < w.heap.size → S b → S' b) : TmAt S' w v tss := by
  obtain ⟨a, cap, rfl, hr⟩ := h
  refine ⟨a, cap, rfl, fun e ms he => ?_⟩
  obtain ⟨b, o, r, ha, hb, h1, h2, hs, hm⟩ := hr e ms he
  exact ⟨b, o, r, ha, k b (lt_of_cell h1) hb, h1, h2, k r hm.lt hs, hm⟩

structure Laid3 (w : World) (g : Nat) (arr : Array Value) (tss : List (List Mt)) (k : Nat) : Prop where
  size : arr.size = tss.length * 2
  at2 : ∀ i ms, i < k → tss[i]? = some ms → ∃ r, arr[i * 2]? = some (.map (some r)) ∧ arr[i * 2 + 1]? = some (.slice none 0 0) ∧ g < r ∧ MapIs w r (mkE ms)
theorem Laid3.tm {w : World} {g : Nat} {T : TypeId} {arr : Array Value} {tss : List (List Mt)} (h : Laid3 w g arr tss tss.length) (hr : RowIs w g T arr) (cap : Nat) : TmAt (fun b => g ≤ b) w (.slice (some ⟨g, 0, none⟩) tss.length cap) tss := by
  refine ⟨_, _, rfl, fun e ms he => ?_⟩
  have hlt : e < tss.length := by
    rcases Nat.lt_or_ge e tss.length with k | k
    · exact k
    · rw [List.getElem?_eq_none k] at he; cases he
  obtain ⟨r, h1, h2, h3, h4⟩ := h.at2 e ms hlt he
  exact ⟨g, 0, r, rfl, Nat.le_refl _, by rw [Nat.zero_add]; exact (hr.cell _).trans h1, by rw [Nat.zero_add]; exact (hr.cell _).trans h2, Nat.le_of_lt h3, h4⟩
theorem Laid3.step {w w1 : World} {g r : Nat} {arr : Array Value} {tss : List (List Mt)} {k : Nat} (h : Laid3 w g arr tss k) (hk : k < tss.length) (hb : Below w.heap.size w w1) (hr : g < r) (hm : MapIs w1 r (mkE tss[k])) :
    Laid3 ((w1.setCell ⟨g, k * 2, none⟩ (.map (some r))).setCell ⟨g, k * 2 + 1, none⟩ (.slice none 0 0)) g ((arr.setIfInBounds (k * 2) (.map (some r))).setIfInBounds (k * 2 + 1) (.slice none 0 0)) tss (k + 1) := by
  have hs := h.size
  have kb : ∀ q, q ≠ g → ((w1.setCell ⟨g, k * 2, none⟩ (.map (some r))).setCell ⟨g, k * 2 + 1, none⟩ (.slice none 0 0)).heap[q]? = w1.heap[q]? := fun q hq => by
    rw [Below.heap_setCell _ _ _ _ (by show q ≠ g; exact hq), Below.heap_setCell _ _ _ _ (by show q ≠ g; exact hq)]
  refine ⟨by simpa using hs, fun i ms hi hms => ?_⟩
  rcases Nat.lt_or_ge i k with hik | hik
  · obtain ⟨q, h1, h2, h3, h4⟩ := h.at2 i ms hik hms
    refine ⟨q, ?_, ?_, h3, (h4.below hb).same (kb q (by omega))⟩
    · rw [Array.getElem?_setIfInBounds_ne (by omega), Array.getElem?_setIfInBounds_ne (by omega)]; exact h1
    · rw [Array.getElem?_setIfInBounds_ne (by omega), Array.getElem?_setIfInBounds_ne (by omega)]; exact h2
  · obtain rfl : i = k := by omega
    obtain rfl : tss[i] = ms := by rw [List.getElem?_eq_getElem hk] at hms; exact Option.some.inj hms
    refine ⟨r, ?_, ?_, hr, hm.same (kb r (by omega))⟩
    · rw [Array.getElem?_setIfInBounds_ne (by omega), Array.getElem?_setIfInBounds_self_of_lt (by omega)]
    · rw [Array.getElem?_setIfInBounds_self_of_lt (by simp; omega)]

theorem Laid3.below {w w' : World} {g : Nat} {arr : Array Value} {tss : List (List Mt)} {k : Nat} (h : Laid3 w g arr tss k) (hb : Below w.heap.size w w') : Laid3 w' g arr tss k :=
  ⟨h.size, fun i ms hi hms => let ⟨r, h1, h2, h3, h4⟩ := h.at2 i ms hi hms; ⟨r, h1, h2, h3, h4.below hb⟩⟩
theorem below2 {w wr : World} {i0 i1 : Nat} {v0 v1 : Value} {c : Array Value} {S : TypeId} (h : Below w.heap.size w wr) :
    Below w.heap.size w (((wr.setCell ⟨w.heap.size, i0, none⟩ v0).setCell ⟨w.heap.size, i1, none⟩ v1).alloc (.cells c S)) := by
  have hs := h.size
  exact (((h.setCell (Nat.le_refl _) _).setCell (Nat.le_refl _) _).alloc (by simp [World.setCell]; omega) _)

theorem mkType (r : Nat) (w : World) : Calls Try.prog 18 #[.map (some r), .slice none 0 0] w fun en w' =>
    en = .returned (.agg #[.map (some r), .slice none 0 0]) ∧ ∃ c, w' = w.alloc (.cells c 49) := by
  go_enter Try.func18, Try.ntmps18
  go_wp2
  exact bodyPost_ret (v := .agg #[.map (some r), .slice none 0 0]) (by simp [results, Try.results18, go_sem]) rfl ⟨rfl, _, rfl⟩

def TmPost (tss : List (List Mt)) (w : World) (en : Ending) (w' : World) : Prop := ∃ a c, en = .returned (.slice a tss.length c) ∧ TmAt (fun b => w.heap.size ≤ b) w' (.slice a tss.length c) tss ∧ Below w.heap.size w w'

set_option maxRecDepth 100000 in
set_option maxHeartbeats 4000000 in
theorem build_any (v : Value) (tss : List (List Mt)) (w : World) (h : TsAt w v tss) (hl : tss.length ≤ 1000000000000) (hll : ∀ t, t ∈ tss → t.length ≤ 1000000000000) :
    Calls Try.prog 9 #[v] w (TmPost tss w) := by
  obtain ⟨arr0, hs0, hmk⟩ := make1 30 49 32 (by omega) Try.underlying30 2 (by kernel_rfl) tss.length hl
  have HS0 := hide hs0; clear hs0
  have HLL := hide hll; clear hll
  have heq := fun (W : World) a l c => Lib.run_eql_slice_nil (P := Try.prog) W 22 23 a l c 0 0 Try.underlying22
  have hmm := @run_makeMap Try.prog
  have h' := h
  obtain ⟨a, cap, rfl, hr⟩ := h'
  have HR := hide hr; have HH := hide h; clear hr h
  cases a with
  | none =>
    go_enter Try.func9, Try.ntmps9
    go_wp2
    go_ret
    obtain rfl := nil_ts HH.out
    exact ⟨none, 0, rfl, ⟨none, 0, rfl, fun j m hj => by simp at hj⟩, Below.refl _ _⟩
  | some ad =>
    go_enter Try.func9, Try.ntmps9
    go_wp2
    go_loopw [4] (fun ev wr => ∃ (e : Nat) (arr : Array Value), e ≤ tss.length ∧ ev = .int .i64 e ∧ Hid (RowIs wr w.heap.size 49 arr) ∧ Hid (Below w.heap.size w wr) ∧ Hid (Laid3 wr w.heap.size arr tss e)) (fun ev _ => tss.length - (intOf ev).toNat)
    case atStart => exact ⟨0, arr0, by omega, rfl, RowIs.new _ _ _, (Below.refl _ _).alloc (Nat.le_refl _) _, ⟨HS0.out, fun i ms hi => by omega⟩⟩
    case round =>
      obtain ⟨e, arr, he, rfl, HW, HB, HL⟩ := hrel
      by_cases hlt : e < tss.length
      · obtain ⟨b, o, vi, hao, hc0, hm0⟩ := HR.out e tss[e] (by simp [hlt])
        obtain rfl := Option.some.inj hao
        have hll := HLL.out tss[e] (by simp)
        have hc1 := (Keeps.of HB.out).cell hc0
        have HM := hide (hm0.keep (Keeps.of HB.out))
        clear hm0 hc0
        obtain ⟨L, hL⟩ : ∃ L, tss[e] = L := ⟨_, rfl⟩
        have HLe := hide hL
        rw [hL] at HM hll
        clear hL
        obtain ⟨a', cap', hvi, hri⟩ := id HM.out
        subst hvi
        have HRI := hide hri; clear hri
        have hg := HW.out.lt
        have hbl := lt_of_cell hc1
        obtain ⟨wo, hwo⟩ : ∃ wo : World, wo = wr := ⟨_, rfl⟩
        subst hwo
        go_wp2
        go_loopw [6] (fun jv w2 => ∃ (j : Nat), j ≤ L.length ∧ jv = .int .i64 j ∧ Hid (MapIs w2 wo.heap.size (mkE (L.take j))) ∧ Hid (Below wo.heap.size wo w2)) (fun jv _ => L.length - (intOf jv).toNat)
        case atStart => exact ⟨0, by omega, rfl, MapIs.new _, (Below.refl _ _).alloc (Nat.le_refl _) _⟩
        case round =>
          obtain ⟨j, hj, rfl, HMI, HBI⟩ := hrel
          have hc2 := (Keeps.of HBI.out).cell hc1
          have hmlt := HMI.out.lt
          by_cases hjl : j < L.length
          · obtain ⟨b', o', rfl, A⟩ := HRI.out j L[j] (by simp [hjl])
            have hstep := mkE_take hjl
            obtain ⟨m, hm⟩ : ∃ m, L[j] = m := ⟨_, rfl⟩
            rw [hm] at A hstep
            have HST := hide hstep
            clear hm hstep
            have A' := A.keep (Keeps.of HBI.out)
            clear A
            obtain ⟨a0, a1, a2, a3, a4⟩ := A'
            have hb2 := lt_of_cell a0
            have hb1 := lt_of_cell hc2
            have hMI : ∀ c d : Array Value, MapIs (((wr.alloc (.cells c 41)).alloc (.cells d 38)).drew) wo.heap.size (mkE (L.take j)) := fun c d => (((HMI.out.below ((Below.refl _ _).alloc (Nat.le_refl _) _)).below ((Below.refl _ _).alloc (Nat.le_refl _) _)).same rfl)
            have HMD := hide hMI
            have hup := fun c d => run_put (w := ((wr.alloc (.cells c 41)).alloc (.cells d 38)).drew) Try.underlying45 Try.underlying9 (hMI c d) m.id (.agg #[.string m.id, .string m.ty, .string m.pk, .string m.ky, .int .u32 m.em])
            clear hMI
            go_wp2
            go_region_with (go_at_call 11; refine (method_any _ _).mono ?_; rintro en w' ⟨rfl, c, d, rfl⟩)
            all_goals
              go_wp2
              go_roundw
              case rel => exact ⟨j + 1, by omega, by go_num, by show MapIs _ _ _; rw [HST.out]; exact (put_is (HMD.out c d) m.id _).1, put_below (((HBI.out.alloc HBI.out.size _).alloc (by have := HBI.out.size; simp; omega) _).drew) (HMD.out c d) (Nat.le_refl _) _ _⟩
              case measure => simp [intOf]; omega
          · obtain rfl : j = L.length := by omega
            have HX := hide HMI.out
            rw [List.take_length] at HX
            have HW2 := hide (HW.out.below HBI.out)
            obtain ⟨x0, hx0⟩ : ∃ x, arr[e * 2]? = some x := ⟨_, Array.getElem?_eq_getElem (by rw [HL.out.size]; omega)⟩
            obtain ⟨x1, hx1⟩ : ∃ x, arr[e * 2 + 1]? = some x := ⟨_, Array.getElem?_eq_getElem (by rw [HL.out.size]; omega)⟩
            have f0 := (HW2.out.cell (e * 2)).trans hx0
            have f1 := (HW2.out.cell (e * 2 + 1)).trans hx1
            have ff := HW2.out.frozen
            have hg2 := HW2.out.lt
            clear hx0 hx1
            go_wp2_with (go_at_call 18; refine (mkType _ _).mono ?_; rintro en w' ⟨rfl, c, rfl⟩)
            go_roundw
            case rel => exact ⟨e + 1, _, by omega, by go_num, ((HW2.out.set _ _).set _ _).alloc _, below2 (HB.out.trans (HBI.out.mono (by omega))), (HL.out.step hlt HBI.out hg (by rw [HLe.out]; exact HX.out)).below ((Below.refl _ _).alloc (Nat.le_refl _) _)⟩
            case measure => simp [intOf]; omega
      · obtain rfl : e = tss.length := by omega
        go_wp2
        go_ret
        exact ⟨_, _, rfl, HL.out.tm HW.out _, HB.out⟩

theorem graph_any (a : Option Addr) (n c : Nat) (w : World) : Calls Try.prog 8 #[.slice a n c] w fun en w' =>
    en = .returned (.pointer (some ⟨w.heap.size + 1 + 1, 0, none⟩)) ∧
      w' = ((w.alloc (.map #[] 0)).alloc (.map #[] 0)).alloc (.cells #[.map none, .map none, .map none, .slice a n c, .map (some w.heap.size), .map (some (w.heap.size + 1)), .map none] 59) := by
  have hmm := @run_makeMap Try.prog
  go_enter Try.func8, Try.ntmps8
  go_wp2
  go_ret
  exact ⟨rfl, rfl⟩
end Go.Proofs.Qxb6604184a
