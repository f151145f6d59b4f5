/-
  zzBytes (4), zzNRRules (5), zzEUTRARules (6), zzDualShape (10); the plain law on dd.
-/
import Derived.Test.Qxb6615605aDecide
namespace Go.Proofs.Qxb6615605a
open Go.RowKit

def nrB (h o e p : Int) : Bool := h == 1 && o == 2 && e == 3 && p == 5
def euB (h o e p : Int) : Bool := h == 2 && o == 1 && e == 4 && p == 6

theorem nr_any (h o e p : Int) (w : World) : Calls Try.prog 5 #[.int .u8 h, .int .u8 o, .int .u8 e, .int .u8 p] w fun r w' => r = .returned (.bool (nrB h o e p)) ∧ w' = w := by
  unfold nrB
  by_cases h1 : h = 1
  · subst h1
    by_cases h2 : o = 2
    · subst h2
      by_cases h3 : e = 3
      · subst h3
        by_cases h4 : p = 5
        · subst h4
          go_enter Try.func5, Try.ntmps5; go_wp2; go_ret; exact ⟨rfl, rfl⟩
        · have g : (p == 5) = false := by simpa using h4
          rw [g]
          go_enter Try.func5, Try.ntmps5; go_wp2; go_ret; exact ⟨rfl, rfl⟩
      · have g : (e == 3) = false := by simpa using h3
        rw [g]
        go_enter Try.func5, Try.ntmps5; go_wp2; go_ret; exact ⟨rfl, rfl⟩
    · have g : (o == 2) = false := by simpa using h2
      rw [g]
      go_enter Try.func5, Try.ntmps5; go_wp2; go_ret; exact ⟨rfl, rfl⟩
  · have g : (h == 1) = false := by simpa using h1
    rw [g]
    go_enter Try.func5, Try.ntmps5; go_wp2; go_ret; exact ⟨rfl, rfl⟩

theorem eu_any (h o e p : Int) (w : World) : Calls Try.prog 6 #[.int .u8 h, .int .u8 o, .int .u8 e, .int .u8 p] w fun r w' => r = .returned (.bool (euB h o e p)) ∧ w' = w := by
  unfold euB
  by_cases h1 : h = 2
  · subst h1
    by_cases h2 : o = 1
    · subst h2
      by_cases h3 : e = 4
      · subst h3
        by_cases h4 : p = 6
        · subst h4
          go_enter Try.func6, Try.ntmps6; go_wp2; go_ret; exact ⟨rfl, rfl⟩
        · have g : (p == 6) = false := by simpa using h4
          rw [g]
          go_enter Try.func6, Try.ntmps6; go_wp2; go_ret; exact ⟨rfl, rfl⟩
      · have g : (e == 4) = false := by simpa using h3
        rw [g]
        go_enter Try.func6, Try.ntmps6; go_wp2; go_ret; exact ⟨rfl, rfl⟩
    · have g : (o == 1) = false := by simpa using h2
      rw [g]
      go_enter Try.func6, Try.ntmps6; go_wp2; go_ret; exact ⟨rfl, rfl⟩
  · have g : (h == 2) = false := by simpa using h1
    rw [g]
    go_enter Try.func6, Try.ntmps6; go_wp2; go_ret; exact ⟨rfl, rfl⟩

/-- zzBytes: the clause is short. -/
theorem bytes_yes (ems esfb : Bool) (s : ByteArray) (c : Array Value) (h o e p : Value) (hs : s.size ≤ 1048576) (w : World) :
    Calls Try.prog 4 #[.bool ems, .bool esfb, .string s, .agg c, h, o, e, p] w fun r w' => r = .returned (.bool true) ∧ w' = w.alloc (.cells c 23) := by
  have g : ¬ (1048576 : Int) < s.size := by omega
  go_enter Try.func4, Try.ntmps4
  go_wp2
  go_ret
  exact ⟨rfl, rfl⟩

theorem bytes_no (ems esfb : Bool) (s : ByteArray) (c : Array Value) (h o e p : Value) (hs : 1048576 < s.size) (w : World) :
    Calls Try.prog 4 #[.bool ems, .bool esfb, .string s, .agg c, h, o, e, p] w fun r w' => r = .returned (.bool false) ∧ w' = w.alloc (.cells c 23) := by
  have g : (1048576 : Int) < s.size := by omega
  go_enter Try.func4, Try.ntmps4
  go_wp2
  go_ret
  exact ⟨rfl, rfl⟩

theorem clause_is : (clause.toList == [84, 83, 32, 50, 52, 46, 50, 50, 57, 32, 85, 46, 50, 46, 50, 46, 54, 46, 53]) = true := by decide +kernel

/-- zzDualShape, two paths. -/
theorem shape_two (esfb uesfb ueE ueN : Bool) (mode emc emf : Int) (w : World) :
    Calls Try.prog 10 #[.agg #[.bool true, .bool esfb, .string clause, .int .u8 1, .int .u8 9, .int .u8 2], .bool true, .bool esfb,
      .agg #[.int .u8 mode, .int .u8 1, .int .u8 emc, .int .u8 emf, .bool true, .bool true, .bool uesfb, .bool ueE, .bool ueN]] w fun e w' =>
      e = .returned (.bool true) ∧ Below w.heap.size w w' := by
  have hcl := clause_is
  go_enter Try.func10, Try.ntmps10
  go_wp2
  go_ret
  exact ⟨rfl, ((Below.refl _ _).alloc (Nat.le_refl _) _).alloc (by simp) _⟩

set_option maxHeartbeats 400000 in
theorem s1 (esfb eps emcbs uesfb ueE ueN : Bool) (mode emc emf x : Int) (w : World) (h2 : (x != 0) = true) (h3 : (x == 1) = false) :
    Calls Try.prog 10 #[.agg #[.bool false, .bool esfb, .string clause, .int .u8 x, .int .u8 0, .int .u8 1], .bool false, .bool esfb,
      .agg #[.int .u8 mode, .int .u8 1, .int .u8 emc, .int .u8 emf, .bool eps, .bool emcbs, .bool uesfb, .bool ueE, .bool ueN]] w fun e w' =>
      e = .returned (.bool true) ∧ Below w.heap.size w w' := by
  have hcl := clause_is
  go_enter Try.func10, Try.ntmps10
  go_wp2
  go_ret
  exact ⟨rfl, ((Below.refl _ _).alloc (Nat.le_refl _) _).alloc (by simp) _⟩

set_option maxHeartbeats 400000 in
theorem s2 (esfb eps emcbs uesfb ueE ueN : Bool) (mode emc emf cell x : Int) (w : World) (h2 : (x != 0) = true) (h3 : (x == 1) = false) (hc : (cell == 1) = false) :
    Calls Try.prog 10 #[.agg #[.bool false, .bool esfb, .string clause, .int .u8 x, .int .u8 0, .int .u8 1], .bool false, .bool esfb,
      .agg #[.int .u8 mode, .int .u8 cell, .int .u8 emc, .int .u8 emf, .bool eps, .bool emcbs, .bool uesfb, .bool ueE, .bool ueN]] w fun e w' =>
      e = .returned (.bool true) ∧ Below w.heap.size w w' := by
  have hcl := clause_is
  go_enter Try.func10, Try.ntmps10
  go_wp2
  go_ret
  exact ⟨rfl, ((Below.refl _ _).alloc (Nat.le_refl _) _).alloc (by simp) _⟩

set_option maxHeartbeats 400000 in
theorem s3 (esfb emcbs uesfb ueE ueN : Bool) (mode emc emf : Int) (w : World) :
    Calls Try.prog 10 #[.agg #[.bool true, .bool esfb, .string clause, .int .u8 1, .int .u8 0, .int .u8 1], .bool true, .bool esfb,
      .agg #[.int .u8 mode, .int .u8 1, .int .u8 emc, .int .u8 emf, .bool false, .bool emcbs, .bool uesfb, .bool ueE, .bool ueN]] w fun e w' =>
      e = .returned (.bool true) ∧ Below w.heap.size w w' := by
  have hcl := clause_is
  go_enter Try.func10, Try.ntmps10
  go_wp2
  go_ret
  exact ⟨rfl, ((Below.refl _ _).alloc (Nat.le_refl _) _).alloc (by simp) _⟩

set_option maxHeartbeats 400000 in
theorem s4 (esfb emcbs uesfb ueE ueN : Bool) (mode emc emf cell : Int) (w : World) (hc : (cell == 1) = false) :
    Calls Try.prog 10 #[.agg #[.bool true, .bool esfb, .string clause, .int .u8 1, .int .u8 0, .int .u8 1], .bool true, .bool esfb,
      .agg #[.int .u8 mode, .int .u8 cell, .int .u8 emc, .int .u8 emf, .bool false, .bool emcbs, .bool uesfb, .bool ueE, .bool ueN]] w fun e w' =>
      e = .returned (.bool true) ∧ Below w.heap.size w w' := by
  have hcl := clause_is
  go_enter Try.func10, Try.ntmps10
  go_wp2
  go_ret
  exact ⟨rfl, ((Below.refl _ _).alloc (Nat.le_refl _) _).alloc (by simp) _⟩

set_option maxHeartbeats 400000 in
theorem s5 (esfb uesfb ueE ueN : Bool) (mode emc emf : Int) (w : World) :
    Calls Try.prog 10 #[.agg #[.bool true, .bool esfb, .string clause, .int .u8 1, .int .u8 0, .int .u8 1], .bool true, .bool esfb,
      .agg #[.int .u8 mode, .int .u8 1, .int .u8 emc, .int .u8 emf, .bool true, .bool false, .bool uesfb, .bool ueE, .bool ueN]] w fun e w' =>
      e = .returned (.bool true) ∧ Below w.heap.size w w' := by
  have hcl := clause_is
  go_enter Try.func10, Try.ntmps10
  go_wp2
  go_ret
  exact ⟨rfl, ((Below.refl _ _).alloc (Nat.le_refl _) _).alloc (by simp) _⟩

set_option maxHeartbeats 400000 in
theorem s6 (esfb emcbs uesfb ueE ueN : Bool) (mode emc emf cell x : Int) (w : World) (h2 : (x != 0) = true) (h3 : (x == 1) = false) (hc : (cell == 1) = false) :
    Calls Try.prog 10 #[.agg #[.bool true, .bool esfb, .string clause, .int .u8 x, .int .u8 0, .int .u8 1], .bool true, .bool esfb,
      .agg #[.int .u8 mode, .int .u8 cell, .int .u8 emc, .int .u8 emf, .bool true, .bool emcbs, .bool uesfb, .bool ueE, .bool ueN]] w fun e w' =>
      e = .returned (.bool true) ∧ Below w.heap.size w w' := by
  have hcl := clause_is
  go_enter Try.func10, Try.ntmps10
  go_wp2
  go_ret
  exact ⟨rfl, ((Below.refl _ _).alloc (Nat.le_refl _) _).alloc (by simp) _⟩

end Go.Proofs.Qxb6615605a
