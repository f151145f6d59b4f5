/-
  Time.Compare (17), the closure (16).
-/
import Derived.Test.Qxb6615732aTime
namespace Go.Proofs.Qxb6615732a
open Go.RowKit

def cmpI (a b : Int) : Int := if a < b then -1 else if b < a then 1 else 0

set_option maxRecDepth 100000 in
set_option maxHeartbeats 400000 in
theorem cmp_lt (n1 s1 n2 s2 : Int) (a0 : 0 ≤ n1) (a1 : n1 < 1073741824) (b0 : 0 ≤ n2) (b1 : n2 < 1073741824) (hs : s1 < s2) (w : World) :
    Calls Try.prog 17 #[.agg #[.int .u64 n1, .int .i64 s1, .pointer none], .agg #[.int .u64 n2, .int .i64 s2, .pointer none]] w fun e w' => e = .returned (.int .i64 (-1)) ∧ Below w.heap.size w w' := by
  obtain ⟨k0, k1⟩ := and_small n1 n2 a0 a1 b0 b1
  have t0 := top63 _ k0 k1
  have hne : (s1 == s2) = false := by simp; omega
  go_enter Try.func17, Try.ntmps17
  go_wp2_with fail
  refine (sec_any _ _ n1 s1 a0 a1 _ (by simp [go_sem]) (by simp [go_sem])).mono ?_
  rintro e w1 ⟨rfl, rfl⟩
  go_wp2_with fail
  refine (sec_any _ _ n2 s2 b0 b1 _ (by simp [go_sem]) (by simp [go_sem])).mono ?_
  rintro e w1 ⟨rfl, rfl⟩
  clear t0 k0 k1
  go_wp2
  go_ret
  exact ⟨rfl, ((Below.refl _ _).alloc (Nat.le_refl _) _).alloc (by simp) _⟩

set_option maxRecDepth 100000 in
set_option maxHeartbeats 400000 in
theorem cmp_gt (n1 s1 n2 s2 : Int) (a0 : 0 ≤ n1) (a1 : n1 < 1073741824) (b0 : 0 ≤ n2) (b1 : n2 < 1073741824) (hs : s2 < s1) (w : World) :
    Calls Try.prog 17 #[.agg #[.int .u64 n1, .int .i64 s1, .pointer none], .agg #[.int .u64 n2, .int .i64 s2, .pointer none]] w fun e w' => e = .returned (.int .i64 1) ∧ Below w.heap.size w w' := by
  obtain ⟨k0, k1⟩ := and_small n1 n2 a0 a1 b0 b1
  have t0 := top63 _ k0 k1
  have hne : (s1 == s2) = false := by simp; omega
  have hnl : ¬ s1 < s2 := by omega
  go_enter Try.func17, Try.ntmps17
  go_wp2_with fail
  refine (sec_any _ _ n1 s1 a0 a1 _ (by simp [go_sem]) (by simp [go_sem])).mono ?_
  rintro e w1 ⟨rfl, rfl⟩
  go_wp2_with fail
  refine (sec_any _ _ n2 s2 b0 b1 _ (by simp [go_sem]) (by simp [go_sem])).mono ?_
  rintro e w1 ⟨rfl, rfl⟩
  clear t0 k0 k1
  go_wp2
  go_ret
  exact ⟨rfl, ((Below.refl _ _).alloc (Nat.le_refl _) _).alloc (by simp) _⟩

set_option maxRecDepth 100000 in
set_option maxHeartbeats 400000 in
theorem cmp_eq (n1 s n2 : Int) (a0 : 0 ≤ n1) (a1 : n1 < 1073741824) (b0 : 0 ≤ n2) (b1 : n2 < 1073741824) (w : World) :
    Calls Try.prog 17 #[.agg #[.int .u64 n1, .int .i64 s, .pointer none], .agg #[.int .u64 n2, .int .i64 s, .pointer none]] w fun e w' => e = .returned (.int .i64 (cmpI n1 n2)) ∧ Below w.heap.size w w' := by
  obtain ⟨k0, k1⟩ := and_small n1 n2 a0 a1 b0 b1
  have t0 := top63 _ k0 k1
  have key : ∀ r, cmpI n1 n2 = r → (Calls Try.prog 17 #[.agg #[.int .u64 n1, .int .i64 s, .pointer none], .agg #[.int .u64 n2, .int .i64 s, .pointer none]] w fun e w' => e = .returned (.int .i64 r) ∧ Below w.heap.size w w') →
      (Calls Try.prog 17 #[.agg #[.int .u64 n1, .int .i64 s, .pointer none], .agg #[.int .u64 n2, .int .i64 s, .pointer none]] w fun e w' => e = .returned (.int .i64 (cmpI n1 n2)) ∧ Below w.heap.size w w') := by
    intro r hr h; rw [hr]; exact h
  by_cases h1 : n1 < n2
  · refine key (-1) (by simp [cmpI, h1]) ?_
    clear key
    go_enter Try.func17, Try.ntmps17
    go_wp2_with fail
    refine (sec_any _ _ n1 s a0 a1 _ (by simp [go_sem]) (by simp [go_sem])).mono ?_
    rintro e w1 ⟨rfl, rfl⟩
    go_wp2_with fail
    refine (sec_any _ _ n2 s b0 b1 _ (by simp [go_sem]) (by simp [go_sem])).mono ?_
    rintro e w1 ⟨rfl, rfl⟩
    clear t0 k0 k1
    go_wp2_with fail
    refine (nsec_any _ _ n1 a0 a1 _ (by simp [go_sem])).mono ?_
    rintro e w1 ⟨rfl, rfl⟩
    go_wp2_with fail
    refine (nsec_any _ _ n2 b0 b1 _ (by simp [go_sem])).mono ?_
    rintro e w1 ⟨rfl, rfl⟩
    go_wp2
    go_ret
    exact ⟨rfl, ((Below.refl _ _).alloc (Nat.le_refl _) _).alloc (by simp) _⟩
  by_cases h2 : n2 < n1
  · refine key 1 (by simp [cmpI, h1, h2]) ?_
    clear key
    go_enter Try.func17, Try.ntmps17
    go_wp2_with fail
    refine (sec_any _ _ n1 s a0 a1 _ (by simp [go_sem]) (by simp [go_sem])).mono ?_
    rintro e w1 ⟨rfl, rfl⟩
    go_wp2_with fail
    refine (sec_any _ _ n2 s b0 b1 _ (by simp [go_sem]) (by simp [go_sem])).mono ?_
    rintro e w1 ⟨rfl, rfl⟩
    clear t0 k0 k1
    go_wp2_with fail
    refine (nsec_any _ _ n1 a0 a1 _ (by simp [go_sem])).mono ?_
    rintro e w1 ⟨rfl, rfl⟩
    go_wp2_with fail
    refine (nsec_any _ _ n2 b0 b1 _ (by simp [go_sem])).mono ?_
    rintro e w1 ⟨rfl, rfl⟩
    go_wp2
    go_ret
    exact ⟨rfl, ((Below.refl _ _).alloc (Nat.le_refl _) _).alloc (by simp) _⟩
  · refine key 0 (by simp [cmpI, h1, h2]) ?_
    clear key
    go_enter Try.func17, Try.ntmps17
    go_wp2_with fail
    refine (sec_any _ _ n1 s a0 a1 _ (by simp [go_sem]) (by simp [go_sem])).mono ?_
    rintro e w1 ⟨rfl, rfl⟩
    go_wp2_with fail
    refine (sec_any _ _ n2 s b0 b1 _ (by simp [go_sem]) (by simp [go_sem])).mono ?_
    rintro e w1 ⟨rfl, rfl⟩
    clear t0 k0 k1
    go_wp2_with fail
    refine (nsec_any _ _ n1 a0 a1 _ (by simp [go_sem])).mono ?_
    rintro e w1 ⟨rfl, rfl⟩
    go_wp2_with fail
    refine (nsec_any _ _ n2 b0 b1 _ (by simp [go_sem])).mono ?_
    rintro e w1 ⟨rfl, rfl⟩
    go_wp2
    go_ret
    exact ⟨rfl, ((Below.refl _ _).alloc (Nat.le_refl _) _).alloc (by simp) _⟩

/-- Time.Compare of two times that zzTime made. -/
theorem cmp_any (a b : Int) (w : World) :
    Calls Try.prog 17 #[.agg #[.int .u64 (nn a), .int .i64 (sc a), .pointer none], .agg #[.int .u64 (nn b), .int .i64 (sc b), .pointer none]] w fun e w' => e = .returned (.int .i64 (cmpI a b)) ∧ Below w.heap.size w w' := by
  obtain ⟨a0, a1⟩ := nn_bd a
  obtain ⟨b0, b1⟩ := nn_bd b
  have ea := sc_nn a
  have eb := sc_nn b
  by_cases h1 : sc a < sc b
  · have e : cmpI a b = -1 := by unfold cmpI; rw [if_pos (by omega)]
    rw [e]
    exact cmp_lt _ _ _ _ a0 (by omega) b0 (by omega) h1 w
  by_cases h2 : sc b < sc a
  · have e : cmpI a b = 1 := by unfold cmpI; rw [if_neg (by omega), if_pos (by omega)]
    rw [e]
    exact cmp_gt _ _ _ _ a0 (by omega) b0 (by omega) h2 w
  have hs : sc a = sc b := by omega
  have e : cmpI a b = cmpI (nn a) (nn b) := by
    unfold cmpI
    by_cases g1 : nn a < nn b
    · rw [if_pos g1, if_pos (by omega)]
    · rw [if_neg g1, if_neg (by omega)]
      by_cases g2 : nn b < nn a
      · rw [if_pos g2, if_pos (by omega)]
      · rw [if_neg g2, if_neg (by omega)]
  rw [e, hs]
  exact cmp_eq _ _ _ a0 (by omega) b0 (by omega) w

set_option maxRecDepth 100000 in
set_option maxHeartbeats 400000 in
/-- The closure that firstSignal hands to the search. -/
theorem clo_any (a b : Int) (s : ByteArray) (x : Bool) (w : World) :
    Calls Try.prog 16 #[.agg #[.int .u64 (nn a), .int .i64 (sc a), .pointer none, .string s, .bool x], .agg #[.int .u64 (nn b), .int .i64 (sc b), .pointer none]] w fun e w' => e = .returned (.int .i64 (cmpI a b)) ∧ Below w.heap.size w w' := by
  go_enter Try.func16, Try.ntmps16
  go_wp2_with fail
  refine (cmp_any a b _).mono ?_
  rintro e w1 ⟨rfl, hb⟩
  have HB : Hid (Below w.heap.size w w1) := (((Below.refl _ _).alloc (Nat.le_refl _) _).alloc (by simp) _).trans (hb.mono (by simp; omega))
  clear hb
  go_wp2
  go_ret
  exact ⟨rfl, HB.out⟩

end Go.Proofs.Qxb6615732a
