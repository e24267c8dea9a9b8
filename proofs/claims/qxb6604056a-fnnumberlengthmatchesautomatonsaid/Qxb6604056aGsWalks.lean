import Derived.Test.Qxb6604056aRows
import Derived.Test.Qxb6604056aGsPlain
import Derived.WalkKit
import Derived.WalkSpells
import Derived.WalkLawsBesides
import Derived.Deep.QuietTactic
import Derived.BigQuiet
import Derived.RowKit3
namespace Go.Proofs.Qxb6604056a
open Go.RowKit
set_option linter.unusedVariables false

theorem hide {p : Prop} (h : p) : Hid p := h
theorem unhide {p : Prop} (h : Hid p) : p := h
theorem ret_bool {a b : Bool} (h : a = b) : Ending.returned (.bool a) = .returned (.bool b) := by rw [h]

/-- The byte at i, as a number. -/
def bv (s : ByteArray) (i : Nat) : Int := if h : i < s.size then (s[i].toNat : Int) else 0
theorem bv_at {s : ByteArray} {i : Nat} (h : i < s.size) : (s[i].toNat : Int) = bv s i := by simp [bv, h]
/-- The same in the order that is asked for. -/
def fv (rev : Bool) (s : ByteArray) (i : Nat) : Int := if rev then - bv s i else bv s i

theorem int_eq {k : IntKind} {a b : Int} (h : a = b) : Value.int k a = .int k b := by rw [h]
theorem nat_eq {k p : Nat} (h : ((k : Int) == (p : Int)) = true) : k = p := by have := beq_iff_eq.1 h; omega
theorem nat_ne {k p : Nat} (h : ((k : Int) == (p : Int)) = false) : k ≠ p := by have := beq_eq_false_iff_ne.1 h; omega
section
variable {s : ByteArray} {m j k p b : Nat}
theorem fv_f {i : Nat} (h : i < s.size) : fv false s i = (s[i].toNat : Int) := by simp [fv, bv_at h]
theorem fv_t {i : Nat} (h : i < s.size) : fv true s i = - (s[i].toNat : Int) := by simp [fv, bv_at h]
theorem st_lss_false (hlt : j + k < s.size) (hbs : b < s.size) (hb : b + 1 = m + k) (h : s[j + k].toNat < s[b].toNat) (HI : Gs.Inv (fv false s) s.size m j k p) : Gs.Inv (fv false s) s.size m (j + k) 1 (j + k + 1 - m) :=
  HI.lss hlt (by rw [show m + k - 1 = b by omega, fv_f hlt, fv_f hbs]; omega)
theorem st_eqp_false (hlt : j + k < s.size) (hbs : b < s.size) (hb : b + 1 = m + k) (h : ((s[j + k].toNat : Int) == (s[b].toNat : Int)) = true) (hk : ((k : Int) == (p : Int)) = true) (HI : Gs.Inv (fv false s) s.size m j k p) : Gs.Inv (fv false s) s.size m (j + p) 1 p :=
  HI.eqp hlt (by rw [show m + k - 1 = b by omega, fv_f hlt, fv_f hbs]; simpa using h) (nat_eq hk)
theorem st_eqn_false (hlt : j + k < s.size) (hbs : b < s.size) (hb : b + 1 = m + k) (h : ((s[j + k].toNat : Int) == (s[b].toNat : Int)) = true) (hk : ((k : Int) == (p : Int)) = false) (HI : Gs.Inv (fv false s) s.size m j k p) : Gs.Inv (fv false s) s.size m j (k + 1) p :=
  HI.eqn hlt (by rw [show m + k - 1 = b by omega, fv_f hlt, fv_f hbs]; simpa using h) (nat_ne hk)
theorem st_gtr_false (hlt : j + k < s.size) (hbs : b < s.size) (hb : b + 1 = m + k) (h : ¬ s[j + k].toNat < s[b].toNat) (h' : ((s[j + k].toNat : Int) == (s[b].toNat : Int)) = false) (HI : Gs.Inv (fv false s) s.size m j k p) : Gs.Inv (fv false s) s.size (j + 1) (j + 1) 1 1 :=
  HI.gtr hlt (by
    have h2 : (s[j + k].toNat : Int) ≠ (s[b].toNat : Int) := beq_eq_false_iff_ne.1 h'
    rw [show m + k - 1 = b by omega, fv_f hlt, fv_f hbs]; omega)
theorem st_lss_true (hlt : j + k < s.size) (hbs : b < s.size) (hb : b + 1 = m + k) (h : s[b].toNat < s[j + k].toNat) (HI : Gs.Inv (fv true s) s.size m j k p) : Gs.Inv (fv true s) s.size m (j + k) 1 (j + k + 1 - m) :=
  HI.lss hlt (by rw [show m + k - 1 = b by omega, fv_t hlt, fv_t hbs]; omega)
theorem st_eqp_true (hlt : j + k < s.size) (hbs : b < s.size) (hb : b + 1 = m + k) (h : ((s[b].toNat : Int) == (s[j + k].toNat : Int)) = true) (hk : ((k : Int) == (p : Int)) = true) (HI : Gs.Inv (fv true s) s.size m j k p) : Gs.Inv (fv true s) s.size m (j + p) 1 p :=
  HI.eqp hlt (by
    have h2 : (s[b].toNat : Int) = (s[j + k].toNat : Int) := beq_iff_eq.1 h
    rw [show m + k - 1 = b by omega, fv_t hlt, fv_t hbs]; omega) (nat_eq hk)
theorem st_eqn_true (hlt : j + k < s.size) (hbs : b < s.size) (hb : b + 1 = m + k) (h : ((s[b].toNat : Int) == (s[j + k].toNat : Int)) = true) (hk : ((k : Int) == (p : Int)) = false) (HI : Gs.Inv (fv true s) s.size m j k p) : Gs.Inv (fv true s) s.size m j (k + 1) p :=
  HI.eqn hlt (by
    have h2 : (s[b].toNat : Int) = (s[j + k].toNat : Int) := beq_iff_eq.1 h
    rw [show m + k - 1 = b by omega, fv_t hlt, fv_t hbs]; omega) (nat_ne hk)
theorem st_gtr_true (hlt : j + k < s.size) (hbs : b < s.size) (hb : b + 1 = m + k) (h : ¬ s[b].toNat < s[j + k].toNat) (h' : ((s[b].toNat : Int) == (s[j + k].toNat : Int)) = false) (HI : Gs.Inv (fv true s) s.size m j k p) : Gs.Inv (fv true s) s.size (j + 1) (j + 1) 1 1 :=
  HI.gtr hlt (by
    have h2 : (s[b].toNat : Int) ≠ (s[j + k].toNat : Int) := beq_eq_false_iff_ne.1 h'
    rw [show m + k - 1 = b by omega, fv_t hlt, fv_t hbs]; omega)
end

set_option maxRecDepth 100000 in
set_option maxHeartbeats 1000000 in
theorem gs_false (s : ByteArray) (w : World) (h0 : 1 ≤ s.size) (h1 : s.size ≤ 4096) :
    Calls Try.prog 18 #[.string s, .bool false] w fun en w' => ∃ m j k p : Nat, en = .returned (.tuple #[.int .i64 m, .int .i64 p]) ∧ Gs.Inv (fv false s) s.size m j k p ∧ j + k = s.size ∧ ∃ n, w' = w.drewN n := by
  go_enter Try.func18, Try.ntmps18
  go_wp2
  go_loopw [5, 6, 7, 8] (fun pv bv jv kv wr => ∃ m j k p q : Nat, bv = .int .i64 ((m : Int) - 1) ∧ jv = .int .i64 j ∧ kv = .int .i64 k ∧ pv = .int .i64 p ∧ wr = w.drewN q ∧ Hid (Gs.Inv (fv false s) s.size m j k p)) (fun _ bv jv kv _ => 3 * 4097 - (intOf bv + intOf jv + intOf kv).toNat)
  case atStart => exact ⟨0, 0, 1, 1, 0, rfl, rfl, rfl, rfl, rfl, Gs.start _ _ h0⟩
  case round =>
    obtain ⟨m, j, k, p, q, rfl, rfl, rfl, rfl, rfl, HI⟩ := hrel
    have k1 := HI.out.k1
    have kp := HI.out.kp
    have jk := HI.out.jk
    obtain ⟨j1, j2, j3⟩ := HI.out.je
    by_cases hlt : j + k < s.size
    · obtain ⟨b, hb⟩ : ∃ b, b + 1 = m + k := ⟨m + k - 1, by omega⟩
      have hbi : (m : Int) - 1 + k = b := by omega
      have hbs : b < s.size := by omega
      have hw1 : IntKind.i64.wrap ((j : Int) + k) = (j : Int) + k := by simp [IntKind.wrap_i64]; omega
      have hw2 : IntKind.i64.wrap ((m : Int) - 1 + k) = (b : Int) := by simp [IntKind.wrap_i64]; omega
      have hlt' : (j : Int) + k < s.size := by omega
      have hlt0 : (0 : Int) ≤ (j : Int) + k := by omega
      have hbs' : (b : Int) < s.size := by omega
      go_wp2
      go_quiet (fail)
      go_wp2
      · go_roundw
        case rel => exact ⟨m, j + k, 1, j + k + 1 - m, _, rfl, by go_num, rfl, int_eq (by omega), rfl, st_lss_false hlt hbs hb ‹_› HI.out⟩
        case measure => simp [intOf]; omega
      · go_roundw
        case rel => exact ⟨m, j + p, 1, p, _, rfl, by go_num, rfl, rfl, rfl, st_eqp_false hlt hbs hb ‹_› ‹_› HI.out⟩
        case measure => have := nat_eq ‹_›; simp [intOf]; omega
      · go_roundw
        case rel => exact ⟨m, j, k + 1, p, _, rfl, rfl, by go_num, rfl, rfl, st_eqn_false hlt hbs hb ‹_› ‹_› HI.out⟩
        case measure => simp [intOf]; omega
      · go_roundw
        case rel => exact ⟨j + 1, j + 1, 1, 1, _, int_eq (by omega), by go_num, rfl, rfl, rfl, st_gtr_false hlt hbs hb ‹_› ‹_› HI.out⟩
        case measure => simp [intOf]; omega
    · go_wp2
      go_ret2
      exact ⟨m, j, k, p, rfl, HI.out, by omega, _, rfl⟩

set_option maxRecDepth 100000 in
set_option maxHeartbeats 1000000 in
theorem gs_true (s : ByteArray) (w : World) (h0 : 1 ≤ s.size) (h1 : s.size ≤ 4096) :
    Calls Try.prog 18 #[.string s, .bool true] w fun en w' => ∃ m j k p : Nat, en = .returned (.tuple #[.int .i64 m, .int .i64 p]) ∧ Gs.Inv (fv true s) s.size m j k p ∧ j + k = s.size ∧ ∃ n, w' = w.drewN n := by
  go_enter Try.func18, Try.ntmps18
  go_wp2
  go_loopw [5, 6, 7, 8] (fun pv bv jv kv wr => ∃ m j k p q : Nat, bv = .int .i64 ((m : Int) - 1) ∧ jv = .int .i64 j ∧ kv = .int .i64 k ∧ pv = .int .i64 p ∧ wr = w.drewN q ∧ Hid (Gs.Inv (fv true s) s.size m j k p)) (fun _ bv jv kv _ => 3 * 4097 - (intOf bv + intOf jv + intOf kv).toNat)
  case atStart => exact ⟨0, 0, 1, 1, 0, rfl, rfl, rfl, rfl, rfl, Gs.start _ _ h0⟩
  case round =>
    obtain ⟨m, j, k, p, q, rfl, rfl, rfl, rfl, rfl, HI⟩ := hrel
    have k1 := HI.out.k1
    have kp := HI.out.kp
    have jk := HI.out.jk
    obtain ⟨j1, j2, j3⟩ := HI.out.je
    by_cases hlt : j + k < s.size
    · obtain ⟨b, hb⟩ : ∃ b, b + 1 = m + k := ⟨m + k - 1, by omega⟩
      have hbi : (m : Int) - 1 + k = b := by omega
      have hbs : b < s.size := by omega
      have hw1 : IntKind.i64.wrap ((j : Int) + k) = (j : Int) + k := by simp [IntKind.wrap_i64]; omega
      have hw2 : IntKind.i64.wrap ((m : Int) - 1 + k) = (b : Int) := by simp [IntKind.wrap_i64]; omega
      have hlt' : (j : Int) + k < s.size := by omega
      have hlt0 : (0 : Int) ≤ (j : Int) + k := by omega
      have hbs' : (b : Int) < s.size := by omega
      go_wp2
      go_quiet (fail)
      go_wp2
      · go_roundw
        case rel => exact ⟨m, j + k, 1, j + k + 1 - m, _, rfl, by go_num, rfl, int_eq (by omega), rfl, st_lss_true hlt hbs hb ‹_› HI.out⟩
        case measure => simp [intOf]; omega
      · go_roundw
        case rel => exact ⟨m, j + p, 1, p, _, rfl, by go_num, rfl, rfl, rfl, st_eqp_true hlt hbs hb ‹_› ‹_› HI.out⟩
        case measure => have := nat_eq ‹_›; simp [intOf]; omega
      · go_roundw
        case rel => exact ⟨m, j, k + 1, p, _, rfl, rfl, by go_num, rfl, rfl, st_eqn_true hlt hbs hb ‹_› ‹_› HI.out⟩
        case measure => simp [intOf]; omega
      · go_roundw
        case rel => exact ⟨j + 1, j + 1, 1, 1, _, int_eq (by omega), by go_num, rfl, rfl, rfl, st_gtr_true hlt hbs hb ‹_› ‹_› HI.out⟩
        case measure => simp [intOf]; omega
    · go_wp2
      go_ret2
      exact ⟨m, j, k, p, rfl, HI.out, by omega, _, rfl⟩
end Go.Proofs.Qxb6604056a
