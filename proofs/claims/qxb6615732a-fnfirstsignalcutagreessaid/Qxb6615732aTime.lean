/-
  package time's own text: nsec (21), sec (20), addSec (22), Add (18); zzTime (14); Compare (17).
-/
import Derived.Test.Qxb6615732aRows
import Derived.WalkKit
import Derived.WalkSpells
import Derived.Outline
import Derived.Laws.Pointers
import Derived.Laws.BitsAllLaws
import Derived.RowKit3
import Derived.Deep.QuietTactic
import Derived.BigQuiet
import Derived.WalkSmall
namespace Go.Proofs.Qxb6615732a
open Go.RowKit

/-! ### Bits -/
theorem mask30 (n : Int) (h0 : 0 ≤ n) (h1 : n < 1073741824) : bits .and .u64 n 1073741823 = n := by
  obtain ⟨N, rfl⟩ := Int.eq_ofNat_of_zero_le h0
  have e := u64_and_nat N 1073741823 (by omega) (by omega)
  have e2 : N &&& 1073741823 = N := by
    have := Nat.and_two_pow_sub_one_eq_mod N 30
    rw [show (2 : Nat) ^ 30 - 1 = 1073741823 from rfl] at this
    rw [this]; omega
  rw [e2] at e
  exact e
theorem top63 (n : Int) (h0 : 0 ≤ n) (h1 : n < 1073741824) : bits .and .u64 n 9223372036854775808 = 0 := by
  obtain ⟨N, rfl⟩ := Int.eq_ofNat_of_zero_le h0
  have e := u64_and_nat N 9223372036854775808 (by omega) (by omega)
  have e2 : N &&& 9223372036854775808 = 0 := by
    apply Nat.eq_of_testBit_eq
    intro i
    rw [Nat.testBit_and, show (9223372036854775808 : Nat) = 2 ^ 63 from rfl, Nat.testBit_two_pow]
    by_cases hi : 63 = i
    · subst hi
      rw [Nat.testBit_lt_two_pow (show N < 2 ^ 63 by omega)]; simp
    · simp [hi]
  rw [e2] at e
  exact e
theorem or0 (n : Int) (h0 : 0 ≤ n) (h1 : n < 1073741824) : bits .or .u64 0 n = n := by
  obtain ⟨N, rfl⟩ := Int.eq_ofNat_of_zero_le h0
  have e := u64_or_nat 0 N (by omega) (by omega)
  simpa using e
theorem andNot0 : bits .andNot .u64 0 1073741823 = 0 := by decide +kernel
theorem and_small (a b : Int) (h0 : 0 ≤ a) (h1 : a < 1073741824) (g0 : 0 ≤ b) (g1 : b < 1073741824) : 0 ≤ bits .and .u64 a b ∧ bits .and .u64 a b < 1073741824 := by
  obtain ⟨A, rfl⟩ := Int.eq_ofNat_of_zero_le h0
  obtain ⟨B, rfl⟩ := Int.eq_ofNat_of_zero_le g0
  rw [u64_and_nat A B (by omega) (by omega)]
  have := Nat.and_le_left (n := A) (m := B)
  omega

/-- (*Time).nsec. -/
theorem nsec_any (b o : Nat) (n : Int) (h0 : 0 ≤ n) (h1 : n < 1073741824) (w : World) (hc : w.cell? ⟨b, o, none⟩ = some (.int .u64 n)) :
    Calls Try.prog 21 #[.pointer (some ⟨b, o, none⟩)] w fun e w' => e = .returned (.int .i32 n) ∧ w' = w := by
  have m := mask30 n h0 h1
  go_enter Try.func21, Try.ntmps21
  go_wp2
  go_ret
  exact ⟨rfl, rfl⟩

/-- (*Time).sec. -/
theorem sec_any (b o : Nat) (n s : Int) (h0 : 0 ≤ n) (h1 : n < 1073741824) (w : World) (hc : w.cell? ⟨b, o, none⟩ = some (.int .u64 n)) (hd : w.cell? ⟨b, o + 1, none⟩ = some (.int .i64 s)) :
    Calls Try.prog 20 #[.pointer (some ⟨b, o, none⟩)] w fun e w' => e = .returned (.int .i64 s) ∧ w' = w := by
  have m := top63 n h0 h1
  go_enter Try.func20, Try.ntmps20
  go_wp2
  go_ret
  exact ⟨rfl, rfl⟩

/-- (*Time).addSec on a Time whose seconds are 0. -/
theorem addSec_any (b o : Nat) (n d : Int) (h0 : 0 ≤ n) (h1 : n < 1073741824) (d0 : -9223372038 ≤ d) (d1 : d ≤ 9223372038) (w : World) (hc : w.cell? ⟨b, o, none⟩ = some (.int .u64 n)) (hd : w.cell? ⟨b, o + 1, none⟩ = some (.int .i64 0)) (hf : w.frozen? ⟨b, o + 1, none⟩ = false) :
    Calls Try.prog 22 #[.pointer (some ⟨b, o, none⟩), .int .i64 d] w fun e w' => e = .returned (.tuple #[]) ∧ w' = w.setCell ⟨b, o + 1, none⟩ (.int .i64 d) := by
  have m := top63 n h0 h1
  go_enter Try.func22, Try.ntmps22
  go_wp2
  go_end0
  exact ⟨rfl, rfl⟩

/-- The seconds and the nanoseconds of a time, counted from the zero Time. -/
def sc (ns : Int) : Int := ns / 1000000000
def nn (ns : Int) : Int := ns % 1000000000
theorem nn_bd (ns : Int) : 0 ≤ nn ns ∧ nn ns < 1000000000 := by unfold nn; omega
theorem sc_nn (ns : Int) : sc ns * 1000000000 + nn ns = ns := by unfold sc nn; omega

theorem parts (ns : Int) : (0 ≤ ns.tmod 1000000000 ∧ sc ns = ns.tdiv 1000000000 ∧ nn ns = ns.tmod 1000000000) ∨ (ns.tmod 1000000000 < 0 ∧ sc ns = ns.tdiv 1000000000 - 1 ∧ nn ns = ns.tmod 1000000000 + 1000000000) := by
  unfold sc nn
  have h1 := Int.mul_tdiv_add_tmod ns 1000000000
  have h2 := Int.tmod_lt_of_pos ns (show (0 : Int) < 1000000000 by decide)
  have h3 := Int.lt_tmod_of_pos ns (show (0 : Int) < 1000000000 by decide)
  by_cases h : 0 ≤ ns.tmod 1000000000
  · left; exact ⟨h, by omega, by omega⟩
  · right; exact ⟨by omega, by omega, by omega⟩

set_option maxHeartbeats 400000 in
/-- Time.Add on the zero Time. -/
theorem add_any (ns : Int) (w : World) (h0 : -9223372036854775808 ≤ ns) (h1 : ns ≤ 9223372036854775807) :
    Calls Try.prog 18 #[.agg #[.int .u64 0, .int .i64 0, .pointer none], .int .i64 ns] w fun e w' => e = .returned (.agg #[.int .u64 (nn ns), .int .i64 (sc ns), .pointer none]) ∧ Below w.heap.size w w' := by
  have hp := parts ns
  have hb := nn_bd ns
  have hq := sc_nn ns
  have a0 := andNot0
  rcases hp with ⟨hr, e1, e2⟩ | ⟨hr, e1, e2⟩
  · rw [e1, e2]
    have o0 := or0 (ns.tmod 1000000000) (by omega) (by omega)
    have t0 := top63 (ns.tmod 1000000000) (by omega) (by omega)
    have b1 : ns.tmod 1000000000 < 1000000000 := by omega
    have q0 : -9223372037 ≤ ns.tdiv 1000000000 := by omega
    have q1 : ns.tdiv 1000000000 ≤ 9223372037 := by omega
    clear hb hq e1 e2
    go_enter Try.func18, Try.ntmps18
    go_wp2_with fail
    refine (nsec_any _ _ 0 (by omega) (by omega) _ (by simp [go_sem])).mono ?_
    rintro e w1 ⟨rfl, rfl⟩
    go_wp2_with fail
    refine (addSec_any _ _ (ns.tmod 1000000000) (ns.tdiv 1000000000) hr (by omega) (by omega) (by omega) _ (by simp [go_sem]) (by simp [go_sem]) (by simp [go_sem])).mono ?_
    rintro e w1 ⟨rfl, rfl⟩
    go_wp2
    refine bodyPost_ret (v := .agg #[.int .u64 (ns.tmod 1000000000), .int .i64 (ns.tdiv 1000000000), .pointer none]) (by simp [results, Try.results18, go_sem]) rfl ⟨rfl, ?_⟩
    exact ((Below.refl _ _).alloc (Nat.le_refl _) _).alloc (by simp) _
  · rw [e1, e2]
    have o0 := or0 (ns.tmod 1000000000 + 1000000000) (by omega) (by omega)
    have t0 := top63 (ns.tmod 1000000000 + 1000000000) (by omega) (by omega)
    have b1 : -1000000001 < ns.tmod 1000000000 := by omega
    have q0 : -9223372037 ≤ ns.tdiv 1000000000 := by omega
    have q1 : ns.tdiv 1000000000 ≤ 9223372037 := by omega
    clear hb hq e1 e2
    go_enter Try.func18, Try.ntmps18
    go_wp2_with fail
    refine (nsec_any _ _ 0 (by omega) (by omega) _ (by simp [go_sem])).mono ?_
    rintro e w1 ⟨rfl, rfl⟩
    go_wp2_with fail
    refine (addSec_any _ _ (ns.tmod 1000000000 + 1000000000) (ns.tdiv 1000000000 - 1) (by omega) (by omega) (by omega) (by omega) _ (by simp [go_sem]) (by simp [go_sem]) (by simp [go_sem])).mono ?_
    rintro e w1 ⟨rfl, rfl⟩
    go_wp2
    refine bodyPost_ret (v := .agg #[.int .u64 (ns.tmod 1000000000 + 1000000000), .int .i64 (ns.tdiv 1000000000 - 1), .pointer none]) (by simp [results, Try.results18, go_sem]) rfl ⟨rfl, ?_⟩
    exact ((Below.refl _ _).alloc (Nat.le_refl _) _).alloc (by simp) _

/-- A Time that zzTime makes, as a value. -/
def timeV (ns : Int) : Value := .agg #[.int .u64 (nn ns), .int .i64 (sc ns), .pointer none]

set_option maxHeartbeats 400000 in
/-- zzTime. -/
theorem zzTime_any (ns : Int) (w : World) (h0 : -9223372036854775808 ≤ ns) (h1 : ns ≤ 9223372036854775807) :
    Calls Try.prog 14 #[.int .i64 ns] w fun e w' => e = .returned (.agg #[.int .u64 (nn ns), .int .i64 (sc ns), .pointer none]) ∧ Below w.heap.size w w' := by
  go_enter Try.func14, Try.ntmps14
  go_wp2_with fail
  refine (add_any ns _ h0 h1).mono ?_
  rintro e w1 ⟨rfl, hb⟩
  have c0 : w1.cell? ⟨w.heap.size, 0, none⟩ = some (.int .u64 0) := by rw [hb.cell (p := ⟨w.heap.size, 0, none⟩) (by simp)]; simp [go_sem]
  have c1 : w1.cell? ⟨w.heap.size, 1, none⟩ = some (.int .i64 0) := by rw [hb.cell (p := ⟨w.heap.size, 1, none⟩) (by simp)]; simp [go_sem]
  have c2 : w1.cell? ⟨w.heap.size, 2, none⟩ = some (.pointer none) := by rw [hb.cell (p := ⟨w.heap.size, 2, none⟩) (by simp)]; simp [go_sem]
  have f : ∀ k, w1.frozen? ⟨w.heap.size, k, none⟩ = false := fun k => by rw [hb.frozen (p := ⟨w.heap.size, k, none⟩) (by simp)]; simp [go_sem]
  have HB : Hid (Below w.heap.size w w1) := ((Below.refl _ _).alloc (Nat.le_refl _) _).trans (hb.mono (by simp))
  clear hb
  go_wp2
  refine bodyPost_ret (v := .agg #[.int .u64 (nn ns), .int .i64 (sc ns), .pointer none]) (by simp [results, Try.results14, go_sem, c0, c1, c2]) rfl ⟨rfl, ?_⟩
  exact ((HB.out.setCell (Nat.le_refl _) _).setCell (Nat.le_refl _) _).setCell (Nat.le_refl _) _

end Go.Proofs.Qxb6615732a
